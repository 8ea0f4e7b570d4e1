/-
  Plain laws on worlds: 'Kept X w w'': w' is w with new blocks, and with writes to blocks in X alone.
-/
import Derived.Test.YbulkblamRows
import Derived.WalkKit
import Derived.WalkSpells
namespace Go.Proofs.Ybulkblam
open Go.RowKit

theorem hidden {p : Prop} (h : p) : Hid p := h

structure Kept (X : Nat → Prop) (w w' : World) : Prop where
  os : w'.os = w.os
  tape : w'.tape = w.tape
  output : w'.output = w.output
  size : w.heap.size ≤ w'.heap.size
  block : ∀ k, k < w.heap.size → ¬ X k → w'.heap[k]? = w.heap[k]?

theorem Kept.refl (X : Nat → Prop) (w : World) : Kept X w w := ⟨rfl, rfl, rfl, Nat.le_refl _, fun _ _ _ => rfl⟩
theorem Kept.trans {X : Nat → Prop} {a b c : World} (h : Kept X a b) (k : Kept X b c) : Kept X a c :=
  ⟨k.os.trans h.os, k.tape.trans h.tape, k.output.trans h.output, Nat.le_trans h.size k.size, fun i hi hx => (k.block i (Nat.lt_of_lt_of_le hi h.size) hx).trans (h.block i hi hx)⟩
/-- The second step may write whatever is new behind the first. -/
theorem Kept.then {X Y : Nat → Prop} {a b c : World} (h : Kept X a b) (k : Kept Y b c) (hy : ∀ i, i < a.heap.size → Y i → X i) : Kept X a c :=
  ⟨k.os.trans h.os, k.tape.trans h.tape, k.output.trans h.output, Nat.le_trans h.size k.size, fun i hi hx => (k.block i (Nat.lt_of_lt_of_le hi h.size) (fun e => hx (hy i hi e))).trans (h.block i hi hx)⟩
theorem Kept.mono {X Y : Nat → Prop} {a b : World} (h : Kept X a b) (hy : ∀ i, i < a.heap.size → X i → Y i) : Kept Y a b :=
  ⟨h.os, h.tape, h.output, h.size, fun i hi hx => h.block i hi (fun e => hx (hy i hi e))⟩
theorem Kept.drew {X : Nat → Prop} {a b : World} (h : Kept X a b) : Kept X a b.drew := ⟨h.os, h.tape, h.output, h.size, h.block⟩
theorem Kept.alloc {X : Nat → Prop} {a b : World} (h : Kept X a b) (o : Obj) : Kept X a (b.alloc o) :=
  h.trans ⟨rfl, rfl, rfl, by simp, fun k hk _ => Below.heap_alloc _ _ _ hk⟩
theorem Kept.setCell {X : Nat → Prop} {a b : World} (h : Kept X a b) {p : Addr} (hp : p.block < a.heap.size → X p.block) (u : Value) : Kept X a (b.setCell p u) :=
  ⟨h.os, h.tape, h.output, by simpa [World.setCell] using h.size, fun k hk hx => by
    have hne : k ≠ p.block := fun e => by subst e; exact hx (hp hk)
    rw [Below.heap_setCell _ _ _ _ hne]
    exact h.block k hk hx⟩
theorem Kept.grown {X : Nat → Prop} {a b c : World} {row : Option Nat} (h : Kept X a b) (hg : b.grownBy c row) (hr : ∀ k, k < a.heap.size → row = some k → X k) : Kept X a c :=
  ⟨hg.os.trans h.os, hg.tape.trans h.tape, hg.output.trans h.output, Nat.le_trans h.size hg.size, fun k hk hx =>
    (hg.block k (Nat.lt_of_lt_of_le hk h.size) (fun e => hx (hr k hk e.symm))).trans (h.block k hk hx)⟩
theorem Kept.below {X : Nat → Prop} {a b : World} (h : Kept X a b) {B : Nat} (hB : B ≤ a.heap.size) (hx : ∀ k, k < B → ¬ X k) : Below B a b :=
  ⟨h.os, h.tape, h.output, h.size, fun k hk => h.block k (by omega) (hx k hk)⟩
theorem Kept.of_below {B : Nat} {a b : World} (h : Below B a b) : Kept (fun k => B ≤ k) a b := ⟨h.os, h.tape, h.output, h.size, fun k _ hx => h.block k (by omega)⟩
theorem Kept.heap {X : Nat → Prop} {a b : World} (h : Kept X a b) {k : Nat} {o : Obj} (hk : a.heap[k]? = some o) (hx : ¬ X k) : b.heap[k]? = some o :=
  (h.block k (lt_of_block hk) hx).trans hk
theorem Kept.cell {X : Nat → Prop} {a b : World} (h : Kept X a b) {p : Addr} {v : Value} (hk : a.cell? p = some v) (hx : ¬ X p.block) : b.cell? p = some v :=
  (World.cell?_of_block (h.block p.block (World.block_lt_of_cell? a p hk) hx)).trans hk
theorem Kept.owns {X : Nat → Prop} {a b : World} (h : Kept X a b) {base : Nat} {e : TypeId} {size : Nat} {v : Value} {n : Nat} {xs : List Value} (ho : a.ownsRow base e size v n xs)
    (hx : ∀ g, v.ownBlock = some g → ¬ X g) : b.ownsRow base e size v n xs := by
  refine ⟨ho.1, ?_⟩
  rcases ho.2 with hn | ⟨g, cap, cur, rfl, hb, hgg, rest⟩
  · exact .inl hn
  · exact .inr ⟨g, cap, cur, rfl, hb, h.heap hgg (hx g rfl), rest⟩

/-- The block that a row lies in, and its element type. -/
theorem owns_heap {w : World} {base : Nat} {e : TypeId} {size : Nat} {v : Value} {n : Nat} {xs : List Value} (ho : w.ownsRow base e size v n xs) {g : Nat} (hg : v.ownBlock = some g) : base ≤ g ∧ ∃ cur, w.heap[g]? = some (.cells cur e (0, 0)) := by
  rcases ho.2 with ⟨rfl, _⟩ | ⟨g', cap, cur, rfl, hb, hgg, _⟩
  · simp [Value.ownBlock] at hg
  · simp [Value.ownBlock] at hg
    subst hg
    exact ⟨hb, cur, hgg⟩
/-- Rows of two element types lie in two blocks. -/
theorem owns_apart {w : World} {base base' : Nat} {e e' : TypeId} {size size' : Nat} {v v' : Value} {n n' : Nat} {xs xs' : List Value} (h : w.ownsRow base e size v n xs) (h' : w.ownsRow base' e' size' v' n' xs') (hne : e ≠ e') :
    ∀ g, v.ownBlock = some g → v'.ownBlock ≠ some g := by
  intro g hg hg'
  obtain ⟨_, c, hc⟩ := owns_heap h hg
  obtain ⟨_, c', hc'⟩ := owns_heap h' hg'
  rw [hc] at hc'
  simp at hc'
  exact hne hc'.2
theorem owns_shape {w : World} {base : Nat} {e : TypeId} {size : Nat} {v : Value} {n : Nat} {xs : List Value} (ho : w.ownsRow base e size v n xs) : ∃ ao cap, v = .slice ao n cap := by
  rcases ho.2 with ⟨rfl, rfl⟩ | ⟨g', cap, cur, rfl, hb, hgg, _⟩
  · exact ⟨none, 0, rfl⟩
  · exact ⟨_, _, rfl⟩
theorem owns_some {w : World} {base : Nat} {e : TypeId} {size : Nat} {v : Value} {n : Nat} {xs : List Value} (ho : w.ownsRow base e size v n xs) (hn : 0 < n) : ∃ g cap, v = .slice (some ⟨g, 0, none⟩) n cap ∧ base ≤ g ∧ n ≤ cap ∧ cap ≤ maxLen := by
  rcases ho.2 with ⟨rfl, rfl⟩ | ⟨g', cap, cur, rfl, hb, hgg, hnc, hcm, _⟩
  · omega
  · exact ⟨g', cap, rfl, hb, hnc, hcm⟩

/-- A block of two cells. -/
theorem two_cell0 {w : World} {b : Nat} {v0 v1 : Value} {t : TypeId} (h : w.heap[b]? = some (.cells #[v0, v1] t (0, 0))) : w.cell? ⟨b, 0, none⟩ = some v0 := by simp [World.cell?, h]
theorem two_cell1 {w : World} {b : Nat} {v0 v1 : Value} {t : TypeId} (h : w.heap[b]? = some (.cells #[v0, v1] t (0, 0))) : w.cell? ⟨b, 1, none⟩ = some v1 := by simp [World.cell?, h]
theorem block_free {w : World} {b o : Nat} {cs : Array Value} {t : TypeId} (h : w.heap[b]? = some (.cells cs t (0, 0))) : w.frozen? ⟨b, o, none⟩ = false := by simp [World.frozen?, h]
theorem two_set1 {w : World} {b : Nat} {v0 v1 u : Value} {t : TypeId} (h : w.heap[b]? = some (.cells #[v0, v1] t (0, 0))) : (w.setCell ⟨b, 1, none⟩ u).heap[b]? = some (.cells #[v0, u] t (0, 0)) := by
  rw [heap_setCell_same w b 1 _ t u h]; rfl

end Go.Proofs.Ybulkblam
