/-
  A row of bytes that is appended to, in whatever block it lies by now: 'Row w v zs'; what an append leaves of the rest: 'Put w v w' v''.
-/
import Derived.Test.YbulkblamMem
import Derived.Deep.Upon
import Derived.RegionTactic
namespace Go.Proofs.Ybulkblam
open Go.RowKit

/-- The places behind a slice's elements. -/
def spare (v : Value) : MemPlace → Prop := fun p => ∃ g off len cap j, v = .slice (some ⟨g, off, none⟩) len cap ∧ len + j < cap ∧ p = .cell g (off + len + j)

abbrev cells8 (zs : List Int) : List Value := zs.map (Value.int .u8)

/-- v holds the bytes zs. -/
def Row (w : World) (v : Value) (zs : List Int) : Prop := ∃ ao b off cap, v = .slice ao zs.length cap ∧ cap ≤ maxLen ∧ Came w 1 ao b off zs.length cap (cells8 zs)

/-- v' is v's own array, longer, or lies in a block that w does not have. -/
def After (w : World) (v v' : Value) : Prop := (∃ ao l c l', v = .slice ao l c ∧ v' = .slice ao l' c ∧ l ≤ l') ∨ (∃ g c' l', v' = .slice (some ⟨g, 0, none⟩) l' c' ∧ w.heap.size ≤ g)

def Put (w : World) (v : Value) (w' : World) (v' : Value) : Prop := w.keptBut w' (spare v) ∧ After w v v'

theorem keptBut_new {a c : World} {may : MemPlace → Prop} (h : a.keptBut c (fun p => may p ∨ a.heap.size ≤ p.block)) : a.keptBut c may := by
  refine ⟨h.1, h.2.1, fun i hi => ?_⟩
  have y := h.2.2 i hi
  cases ha : a.heap[i]? with
  | none => rw [ha] at y; simpa using y
  | some oa =>
    cases hc : c.heap[i]? with
    | none => rw [ha, hc] at y; cases oa <;> simp at y
    | some oc =>
      rw [ha, hc] at y
      cases oa <;> cases oc <;> simp at y ⊢
      case cells.cells =>
        refine ⟨y.1, y.2.1, y.2.2.1, fun j hj => y.2.2.2 j hj (by simpa [MemPlace.block] using hi)⟩
      case map.map =>
        rcases y with (y | y) | y
        · exact .inl y
        · exact absurd (show a.heap.size ≤ i from y) (by omega)
        · exact .inr y
      all_goals simp_all

theorem keptBut_then {a b c : World} {may may2 : MemPlace → Prop} (h : a.keptBut b may) (k : b.keptBut c may2) (hm : ∀ p, may2 p → may p ∨ a.heap.size ≤ p.block) : a.keptBut c may :=
  keptBut_new (World.keptBut_trans (World.keptBut_mono (fun _ hp => .inl hp) h) (World.keptBut_mono hm k))

theorem keptBut_frozen {a c : World} {may : MemPlace → Prop} (h : a.keptBut c may) (p : Addr) (hp : p.block < a.heap.size) : c.frozen? p = a.frozen? p := by
  have y := h.2.2 p.block hp
  unfold World.frozen?
  cases ha : a.heap[p.block]? with
  | none =>
    cases hc : c.heap[p.block]? with
    | none => rfl
    | some oc => rw [ha, hc] at y; simp at y
  | some oa =>
    cases hc : c.heap[p.block]? with
    | none => rw [ha, hc] at y; cases oa <;> simp at y
    | some oc =>
      rw [ha, hc] at y
      cases oa <;> cases oc <;> simp at y ⊢
      all_goals simp_all

theorem keptBut_there {a c : World} {may : MemPlace → Prop} (h : a.keptBut c may) (b o : Nat) (hp : b < a.heap.size) (hs : (a.cell? ⟨b, o, none⟩).isSome = true) : (c.cell? ⟨b, o, none⟩).isSome = true := by
  have y := h.2.2 b hp
  unfold World.cell? at hs ⊢
  cases ha : a.heap[b]? with
  | none => rw [ha] at hs; simp at hs
  | some oa =>
    cases hc : c.heap[b]? with
    | none => rw [ha, hc] at y; cases oa <;> simp at y
    | some oc =>
      rw [ha, hc] at y
      rw [ha] at hs
      cases oa <;> cases oc <;> simp at y hs ⊢
      all_goals omega

theorem Row.stay {w w' : World} {v : Value} {zs : List Int} {may : MemPlace → Prop} (h : Row w v zs) (k : w.keptBut w' may)
    (hn : ∀ g off cap, v = .slice (some ⟨g, off, none⟩) zs.length cap → ∀ j, j < zs.length → ¬ may (.cell g (off + j))) : Row w' v zs := by
  obtain ⟨ao, b, off, cap, rfl, hm, hc⟩ := h
  refine ⟨ao, b, off, cap, rfl, hm, hc.le, hc.addr, fun h => Nat.lt_of_lt_of_le (hc.lt h) k.size, hc.oldsLen, fun j u hu => ?_, fun j hj => ?_⟩
  · have hj : j < zs.length := by simpa using (List.getElem?_eq_some_iff.1 hu).1
    have hcap : 0 < cap := by have := hc.le; omega
    obtain rfl := hc.addr hcap
    rw [k.cell (hc.lt hcap) (hn b off cap rfl j hj)]
    exact hc.olds j u hu
  · have hcap : 0 < cap := by omega
    obtain ⟨h1, h2⟩ := hc.spare j hj
    exact ⟨keptBut_there k _ _ (hc.lt hcap) h1, (keptBut_frozen k _ (hc.lt hcap)).trans h2⟩

theorem Row.alloc {w : World} {v : Value} {zs : List Int} (h : Row w v zs) (o : Obj) : Row (w.alloc o) v zs :=
  h.stay (World.keptBut_alloc w o (fun _ => False)) (fun _ _ _ _ _ _ => id)
theorem Row.drew {w : World} {v : Value} {zs : List Int} (h : Row w v zs) : Row w.drew v zs :=
  h.stay (may := fun _ => False) ⟨rfl, rfl, (World.keptBut_refl w (fun _ => False)).2.2⟩ (fun _ _ _ _ _ _ => id)

theorem row_nil (w : World) : Row w (.slice none 0 0) [] :=
  ⟨none, 0, 0, 0, rfl, Nat.zero_le _, Nat.le_refl _, fun h => absurd h (Nat.lt_irrefl _), fun h => absurd h (Nat.lt_irrefl _), rfl, fun _ _ h => by simp at h, fun _ h => by simp at h⟩

theorem Put.refl (w : World) (ao : Option Addr) (l c : Nat) : Put w (.slice ao l c) w (.slice ao l c) := ⟨World.keptBut_refl _ _, .inl ⟨ao, l, c, l, rfl, rfl, Nat.le_refl _⟩⟩

theorem Put.trans {a b c : World} {v v1 v2 : Value} (h : Put a v b v1) (k : Put b v1 c v2) : Put a v c v2 := by
  obtain ⟨h1, h2⟩ := h
  obtain ⟨k1, k2⟩ := k
  refine ⟨keptBut_then h1 k1 ?_, ?_⟩
  · rintro p ⟨g, off, len, cap, j, rfl, hj, rfl⟩
    rcases h2 with ⟨ao, l, c', l', rfl, e, hl⟩ | ⟨g', c', l', e, hg⟩
    · cases e
      exact .inl ⟨g, off, l, cap, len - l + j, rfl, by omega, by congr 1; omega⟩
    · cases e
      exact .inr hg
  · rcases h2 with ⟨ao, l, c', l', rfl, rfl, hl⟩ | ⟨g', c', l', rfl, hg⟩
    · rcases k2 with ⟨ao, l, c', l', e, rfl, hl⟩ | ⟨g', c', l', rfl, hg⟩
      · cases e
        exact .inl ⟨_, _, _, _, rfl, rfl, by omega⟩
      · exact .inr ⟨_, _, _, rfl, Nat.le_trans h1.size hg⟩
    · rcases k2 with ⟨ao, l, c', l', e, rfl, hl⟩ | ⟨g', c', l', rfl, hg⟩
      · cases e
        exact .inr ⟨_, _, _, rfl, hg⟩
      · exact .inr ⟨_, _, _, rfl, Nat.le_trans h1.size hg⟩

/-- Blocks laid, draws made ahead of the append. -/
theorem Put.ahead {a b c : World} {v v' : Value} (h : a.keptBut b (fun _ => False)) (k : Put b v c v') : Put a v c v' := by
  refine ⟨keptBut_then (World.keptBut_mono (fun _ f => f.elim) h) k.1 (fun p hp => .inl hp), ?_⟩
  rcases k.2 with h' | ⟨g', c', l', rfl, hg⟩
  · exact .inl h'
  · exact .inr ⟨_, _, _, rfl, Nat.le_trans h.size hg⟩

theorem info5_at : (Yba.prog.info? 5).map (fun i => (i.zero, i.size, i.bytes)) = some (some (.int .u8 0), 1, 1) := by kernel_rfl
theorem info5 : ∃ i, Yba.prog.info? 5 = some i ∧ i.zero = some (.int .u8 0) ∧ i.size = 1 ∧ i.bytes = 1 := by
  have h := info5_at
  cases hi : Yba.prog.info? 5 with
  | none => rw [hi] at h; simp at h
  | some i =>
    rw [hi] at h
    simp only [Option.map_some, Option.some.injEq, Prod.mk.injEq] at h
    exact ⟨i, rfl, h.1, h.2.1, h.2.2⟩

theorem append_row {w : World} {v : Value} {zs : List Int} (hr : Row w v zs) (ty tx : TypeId) (x : Value) (n : Nat) (ns : List Int) (hs : Src Yba.prog 1 tx x n (cells8 ns) w) (hb : zs.length + ns.length ≤ 140737488355328) :
    ∃ v' w', (Builtin.append_ #[37, tx] ty #[v, x]).run Yba.prog w = .ok v' w' ∧ Row w' v' (zs ++ ns) ∧ Put w v w' v' := by
  obtain ⟨ao, b, off, cap, rfl, hm, hc⟩ := hr
  obtain ⟨i, hi, hz, hsz, hby⟩ := info5
  have hn : n = ns.length := by have := hs.newsLen; simpa using this.symm
  obtain ⟨v', w', hrun, hu⟩ := run_append_upon (P := Yba.prog) hc 37 tx ty i (.int .u8 0) 1 Yba.underlying37 hi hz hsz hby rfl (Upon.start hc) x n (cells8 ns) hs (by simp only [maxLen]; omega) (by omega)
  refine ⟨v', w', hrun, ?_, ?_, ?_⟩
  · simp only [Nat.zero_add, List.nil_append] at hu
    rcases hu.val with ⟨hle, rfl, hrr⟩ | ⟨hgt, g, c', rfl, ho⟩
    · refine ⟨ao, b, off, cap, by simp [hn], hm, by simp; omega, hc.addr, fun h => Nat.lt_of_lt_of_le (hc.lt h) hu.kept.size, by simp, fun j u hu' => ?_, fun j hj => ?_⟩
      · have hj : j < (zs ++ ns).length := by simpa using (List.getElem?_eq_some_iff.1 hu').1
        simp only [List.length_append] at hj
        rw [hu.inArray hc (by omega) hrr j (by omega)]
        simpa using hu'
      · simp only [List.length_append] at hj ⊢
        obtain ⟨h1, h2⟩ := hc.spare (ns.length + j) (by omega)
        have hcap : 0 < cap := by omega
        rw [show off + (zs.length + ns.length) * 1 + j = off + zs.length * 1 + (ns.length + j) by omega]
        exact ⟨keptBut_there hu.kept _ _ (hc.lt hcap) h1, (hu.frozen _ (hc.lt hcap)).trans h2⟩
    · refine ⟨some ⟨g, 0, Option.none⟩, g, 0, c', by simp [hn], ho.max, by simp; have := ho.le; omega, fun _ => rfl, fun h => ?_, by simp, fun j u hu' => ?_, fun j hj => ?_⟩
      · exact World.block_lt_of_cell? _ _ (Option.isSome_iff_exists.1 (ho.there 0 (by omega)).1).choose_spec
      · have hj : j < (zs ++ ns).length := by simpa using (List.getElem?_eq_some_iff.1 hu').1
        simp only [List.length_append] at hj
        rw [Nat.zero_add, ho.holds j (by omega)]
        simpa using hu'
      · simp only [List.length_append] at hj ⊢
        have := ho.there (0 + (zs.length + ns.length) * 1 + j) (by omega)
        exact this
  · refine World.keptBut_mono ?_ hu.kept
    rintro p ⟨j, hj, rfl⟩
    have := hu.capPos hj
    have hfit := hu.rFit
    obtain rfl := hc.addr this
    exact ⟨b, off, zs.length, cap, j, rfl, by omega, by congr 1; omega⟩
  · rcases hu.val with ⟨hle, rfl, hrr⟩ | ⟨hgt, g, c', rfl, ho⟩
    · exact .inl ⟨_, _, _, _, rfl, rfl, by omega⟩
    · exact .inr ⟨_, _, _, rfl, ho.new⟩

/-- At the operation. -/
theorem wp_row {o : Oper} {a : Act} {w : World} {K : Act → World → Prop} {Q : Exit → Act → World → Prop} (s x : Operand) (tx : TypeId)
    (ho : o.op = .call { callee := .builtin .append, args := #[s, x], argTypes := #[37, tx] })
    (v : Value) (zs : List Int) (hv : a.eval s = v) (hr : Row w v zs) (xv : Value) (n : Nat) (ns : List Int) (hx : a.eval x = xv) (hs : Src Yba.prog 1 tx xv n (cells8 ns) w) (hb : zs.length + ns.length ≤ 140737488355328)
    (h : ∀ v' w', Row w' v' (zs ++ ns) → Put w v w' v' → K (a.put o.dst v') w') : o.wp Yba.prog a w K Q := by
  obtain ⟨v', w', hrun, h1, h2⟩ := append_row hr o.type tx xv n ns hs hb
  unfold Oper.wp execOp
  simp only [ho, resolve, invoke, builtin, Sem.run_bind, Sem.run_pure, Result.andThen_ok, List.map_toArray, List.map_cons, List.map_nil, hv, hx, hrun]
  exact h v' w' h1 h2

/-- At a plain region's list. -/
theorem wpList_row {ops : Array Oper} {rest : List Oper} {o : Oper} {a : Act} {w : World} {Q : Exit → Act → World → Prop} (hgd : o.guard = none) (s x : Operand) (tx : TypeId)
    (ho : o.op = .call { callee := .builtin .append, args := #[s, x], argTypes := #[37, tx] })
    (v : Value) (zs : List Int) (hv : a.eval s = v) (hr : Row w v zs) (xv : Value) (n : Nat) (ns : List Int) (hx : a.eval x = xv) (hs : Src Yba.prog 1 tx xv n (cells8 ns) w) (hb : zs.length + ns.length ≤ 140737488355328)
    (h : ∀ v' w', Row w' v' (zs ++ ns) → Put w v w' v' → wpList Yba.prog ops Q rest (a.put o.dst v') w') : wpList Yba.prog ops Q (o :: rest) a w :=
  wpList_plain hgd fun _ hK => wp_row s x tx ho v zs hv hr xv n ns hx hs hb fun v' w' h1 h2 => hK _ _ (h v' w' h1 h2)

/-- At a step of a region that draws its order. -/
theorem step_row {ops : Array Oper} {o : Oper} {a : Act} {w : World} {K : Act → World → Prop} {Q : Exit → Act → World → Prop} {E : Prop} (hgd : o.guard = none) (s x : Operand) (tx : TypeId)
    (ho : o.op = .call { callee := .builtin .append, args := #[s, x], argTypes := #[37, tx] })
    (v : Value) (zs : List Int) (hv : a.eval s = v) (hr : Row w v zs) (xv : Value) (n : Nat) (ns : List Int) (hx : a.eval x = xv) (hs : Src Yba.prog 1 tx xv n (cells8 ns) w) (hb : zs.length + ns.length ≤ 140737488355328)
    (h : ∀ v' w', Row w' v' (zs ++ ns) → Put w v w' v' → K (a.put o.dst v') w') :
    if Region.wanted o (yielded ops a.tmps) = true then Oper.wp Yba.prog o a w K Q else E := by
  have hw : Region.wanted o (yielded ops a.tmps) = true := by simp [Region.wanted, hgd]
  rw [if_pos hw]
  exact wp_row s x tx ho v zs hv hr xv n ns hx hs hb h

end Go.Proofs.Ybulkblam
