import Derived.Test.YbulkblamRow
import Derived.Deep.AppendLies
import Derived.WalkLawsBesides
import Derived.BigCall
import Derived.Deep.RegionWith
namespace Go.Proofs.Ybulkblam
open Go.RowKit

/-- What an appending function leaves. -/
def Adds (v : Value) (zs ns : List Int) (w : World) (e : Ending) (w' : World) : Prop := ∃ v', e = .returned v' ∧ Row w' v' (zs ++ ns) ∧ Put w v w' v'

theorem one8 (ns : List Int) : ∀ u ∈ cells8 ns, u.oneCell' = true := by
  intro u hu
  obtain ⟨z, _, rfl⟩ := List.mem_map.1 hu
  rfl

/-- A literal's block is what is appended. -/
theorem src_lit {w : World} {G m c : Nat} {cs : Array Value} {t : TypeId} {fr : Nat × Nat} {ns : List Int} (hb : w.heap[G]? = some (.cells cs t fr)) (hcs : cs.toList = cells8 ns) (hm : m = ns.length) :
    Src Yba.prog 1 37 (.slice (some ⟨G, 0, none⟩) m c) m (cells8 ns) w :=
  Src.ofSlice w Yba.underlying37 ⟨G, 0, none⟩ m c (cells8 ns) (by simp [hm]) (by rw [← hcs]; exact World.news_of_block hb) (one8 ns)

theorem alloc_new (w : World) (o : Obj) : (w.alloc o).heap[w.heap.size]? = some o := by
  show (w.heap.push o)[w.heap.size]? = some o
  simp

/-- append of a literal that was laid just now. -/
theorem wpList_lit {ops : Array Oper} {rest : List Oper} {o : Oper} {a : Act} {W : World} {Q : Exit → Act → World → Prop} (hgd : o.guard = none) (s x : Operand)
    (ho : o.op = .call { callee := .builtin .append, args := #[s, x], argTypes := #[37, 37] })
    (v : Value) (zs : List Int) (hv : a.eval s = v) (hr : Row W v zs) (G m c : Nat) (cs : Array Value) (t : TypeId) (ns : List Int) (hG : W.heap.size = G) (hx : a.eval x = .slice (some ⟨G, 0, none⟩) m c) (hcs : cs.toList = cells8 ns) (hm : m = ns.length)
    (hb : zs.length + ns.length ≤ 140737488355328)
    (h : ∀ v' w', Row w' v' (zs ++ ns) → Put W v w' v' → wpList Yba.prog ops Q rest (a.put o.dst v') w') : wpList Yba.prog ops Q (o :: rest) a (W.alloc (.cells cs t)) := by
  subst hG
  exact wpList_row hgd s x 37 ho v zs hv (hr.alloc _) _ m ns hx (src_lit (alloc_new W _) hcs hm) hb fun v' w' h1 h2 => h v' w' h1 (Put.ahead (World.keptBut_alloc W _ _) h2)

set_option maxHeartbeats 1000000 in
set_option maxRecDepth 100000 in
theorem be16_any {w : World} {v : Value} {zs : List Int} (hr : Row w v zs) (x : Int) (hb : zs.length + 8 ≤ 140737488355328) : Calls Yba.prog 35 #[.agg #[], v, .int .u16 x] w (Adds v zs [x / 256 % 256, x % 256] w) := by
  go_enter Yba.func35, Yba.ntmps35
  go_wp2_with (at_builtin; refine wpList_lit rfl (.tmp 7) (.tmp 13) rfl v zs rfl (hr.alloc _) _ 2 2 _ _ [x / 256 % 256, x % 256] (by simp) rfl rfl rfl (by simp; omega) ?_; intro v' w1 hr1 hp1)
  go_ret
  exact ⟨_, rfl, hr1, Put.ahead (World.keptBut_alloc w _ _) hp1⟩

set_option maxHeartbeats 1000000 in
set_option maxRecDepth 100000 in
theorem be32_any {w : World} {v : Value} {zs : List Int} (hr : Row w v zs) (x : Int) (hb : zs.length + 8 ≤ 140737488355328) : Calls Yba.prog 36 #[.agg #[], v, .int .u32 x] w (Adds v zs [x / 16777216 % 256, x / 65536 % 256, x / 256 % 256, x % 256] w) := by
  go_enter Yba.func36, Yba.ntmps36
  go_wp2_with (at_builtin; refine wpList_lit rfl (.tmp 7) (.tmp 19) rfl v zs rfl (hr.alloc _) _ 4 4 _ _ [x / 16777216 % 256, x / 65536 % 256, x / 256 % 256, x % 256] (by simp) rfl rfl rfl (by simp; omega) ?_; intro v' w1 hr1 hp1)
  go_ret
  exact ⟨_, rfl, hr1, Put.ahead (World.keptBut_alloc w _ _) hp1⟩

set_option maxHeartbeats 1000000 in
set_option maxRecDepth 100000 in
theorem be64_any {w : World} {v : Value} {zs : List Int} (hr : Row w v zs) (x : Int) (hb : zs.length + 8 ≤ 140737488355328) : Calls Yba.prog 38 #[.agg #[], v, .int .u64 x] w (Adds v zs [x / 72057594037927936 % 256, x / 281474976710656 % 256, x / 1099511627776 % 256, x / 4294967296 % 256, x / 16777216 % 256, x / 65536 % 256, x / 256 % 256, x % 256] w) := by
  go_enter Yba.func38, Yba.ntmps38
  go_wp2_with (at_builtin; refine wpList_lit rfl (.tmp 7) (.tmp 31) rfl v zs rfl (hr.alloc _) _ 8 8 _ _ [x / 72057594037927936 % 256, x / 281474976710656 % 256, x / 1099511627776 % 256, x / 4294967296 % 256, x / 16777216 % 256, x / 65536 % 256, x / 256 % 256, x % 256] (by simp) rfl rfl rfl (by simp; omega) ?_; intro v' w1 hr1 hp1)
  go_ret
  exact ⟨_, rfl, hr1, Put.ahead (World.keptBut_alloc w _ _) hp1⟩

end Go.Proofs.Ybulkblam
