import Derived.Test.YbulkblegMem
import Derived.WalkLawsBesides
import Derived.Maps.OwnSet
import Derived.Deep.Light
import Derived.Deep.QuietTactic
import Derived.BigQuiet
namespace Go.Proofs.Ybulkbleg
open Go.RowKit Go.Maps Go.WideMaps

/-- How an Entry reads: two strings. -/
def entryElem : Value → Option (DataW Unit × List MemPlace)
  | .agg cs => match cs.toList with
    | [.string a, .string b] => some (.agg [.lit (.string a.data.toList), .lit (.string b.data.toList)], [])
    | _ => none
  | _ => none
def entryD (e : ByteArray × ByteArray) : DataW Unit := .agg [.lit (.string e.1.data.toList), .lit (.string e.2.data.toList)]

theorem entry_mk (a b : ByteArray) : entryElem (.agg #[.string a, .string b]) = some (entryD (a, b), []) := rfl
theorem entry_inv {v : Value} {e : ByteArray × ByteArray} {ps : List MemPlace} (h : entryElem v = some (entryD e, ps)) : v = .agg #[.string e.1, .string e.2] := by
  obtain ⟨⟨⟨a⟩⟩, ⟨⟨b⟩⟩⟩ := e
  unfold entryElem at h
  split at h
  · rename_i cs
    split at h
    · rename_i a' b' hcs
      obtain ⟨⟨a'⟩⟩ := a'
      obtain ⟨⟨b'⟩⟩ := b'
      simp [entryD] at h
      obtain ⟨⟨rfl, rfl⟩, _⟩ := h
      congr 1
      exact Array.toList_inj.1 hcs
    · cases h
  · cases h

/-- Edit k of the input as it lies in memory. -/
def EditAt (B : Nat) (w : World) (ao : Option Addr) (k : Nat) (p : ByteArray) (e : ByteArray × ByteArray) : Prop :=
  ∃ b off, ao = some ⟨b, off, none⟩ ∧ b < B ∧ w.cell? ⟨b, off + k * 3, none⟩ = some (.string p) ∧ w.cell? ⟨b, off + k * 3 + 1, none⟩ = some (.string e.1) ∧ w.cell? ⟨b, off + k * 3 + 2, none⟩ = some (.string e.2) ∧ p.size ≤ maxLen
theorem EditAt.later {B : Nat} {w wr : World} {ao : Option Addr} {k : Nat} {p : ByteArray} {e : ByteArray × ByteArray} (h : EditAt B w ao k p e) (hb : Below B w wr) : EditAt B wr ao k p e := by
  obtain ⟨b, off, h1, h2, h3, h4, h5, h6⟩ := h
  exact ⟨b, off, h1, h2, (hb.cell (p := ⟨b, _, none⟩) h2).trans h3, (hb.cell (p := ⟨b, _, none⟩) h2).trans h4, (hb.cell (p := ⟨b, _, none⟩) h2).trans h5, h6⟩

def keyAt (P : Nat → ByteArray) (k : Nat) : Lit := .string (P k).data.toList
/-- The map after k edits. -/
def mapTo (P : Nat → ByteArray) (E : Nat → ByteArray × ByteArray) : Nat → DataW Unit
  | 0 => .map []
  | k + 1 => (mapTo P E k).put (keyAt P k) (entryD (E k))

theorem law : Keyed Yba.prog 9 := string_keyed Yba.underlying9

theorem make_hint (n : Nat) (w : World) : (Instr.makeMap 23 (some (.int .i64 (n : Int)))).run Yba.prog w = .ok (.map (some w.heap.size)) (w.alloc (.map #[] 0)) := by
  simp [Instr.makeMap, run_underlying Yba.underlying23]
  rfl

set_option maxHeartbeats 1000000 in
set_option maxRecDepth 100000 in
theorem byPath_any (ao : Option Addr) (n cap : Nat) (P : Nat → ByteArray) (E : Nat → ByteArray × ByteArray) (w : World) (hn : n ≤ 1024) (hed : ∀ k, k < n → EditAt w.heap.size w ao k (P k) (E k)) :
    Calls Yba.prog 4 #[.slice ao n cap] w fun e w' => e = .returned (.map (some w.heap.size)) ∧ w'.ownsMap Yba.prog 9 entryElem w.heap.size n (mapTo P E n) ∧ Below w.heap.size w w' := by
  have hmm := make_hint n
  have HED := hidden hed
  clear hed
  go_enter Yba.func4, Yba.ntmps4
  go_wp2
  go_loopw [5, 11] (fun _ i wr => ∃ k : Nat, k ≤ n ∧ i = .int .i64 k ∧ wr.ownsMap Yba.prog 9 entryElem w.heap.size k (mapTo P E k) ∧ Below w.heap.size w wr)
    (fun _ i _ => n - (intOf i).toNat)
  case atStart => exact ⟨0, Nat.zero_le _, rfl, World.ownsMap_made _ _ _ _, (Below.refl _ _).alloc (Nat.le_refl _) _⟩
  case round =>
    obtain ⟨k, hk, rfl, hown, hnx⟩ := hrel
    by_cases hlt : k < n
    · obtain ⟨b, off, rfl, hb, hc0, hc1, hc2, hsz⟩ := (HED.out k hlt).later hnx
      have hkey : keyOf Yba.prog 9 (.string (P k)) = some (keyAt P k) := keyOf_string_mk Yba.underlying9 hsz
      have HS : Hid (mapTo P E (k + 1) = (mapTo P E k).put (keyAt P k) (entryD (E k))) := rfl
      clear HED hmm
      generalize mapTo P E k = D at *
      generalize P k = p at *
      generalize keyAt P k = kl at *
      generalize E k = e at *
      obtain ⟨ea, eb⟩ := e
      go_wp2_with (at_mapUpdate; refine wpList_mapUpdate_own _ rfl _ _ _ 23 rfl 9 26 law Yba.underlying23 entryElem w.heap.size k _ rfl (hown.alloc _) (by unfold maxLen; omega) _ _ _ rfl rfl hkey _ [] (entry_mk ea eb) ?_; intro w1 hown1 hgrow1)
      go_roundw
      case rel => exact ⟨k + 1, by omega, by go_num, by rw [HS.out]; exact hown1, (hnx.alloc hnx.size _).grown hgrow1 (by have := hnx.size; simp; omega) (fun j hj => by cases hj; exact Nat.le_refl _)⟩
      case measure => simp [intOf]; omega
    · obtain rfl : k = n := by omega
      clear HED hmm
      go_wp2
      go_ret
      exact ⟨rfl, hown, hnx⟩

end Go.Proofs.Ybulkbleg
