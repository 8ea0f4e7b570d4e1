import Derived.Test.YbulkblegPath
namespace Go.Proofs.Ybulkbleg
open Go.RowKit Go.Maps Go.WideMaps

theorem keyAt_inj {P : Nat → ByteArray} {i j : Nat} : keyAt P i = keyAt P j ↔ P i = P j := by
  constructor
  · intro h
    simp only [keyAt, Lit.string.injEq] at h
    generalize P i = a at *
    generalize P j = b at *
    obtain ⟨⟨a⟩⟩ := a
    obtain ⟨⟨b⟩⟩ := b
    simp at h
    rw [h]
  · intro h; simp [keyAt, h]

theorem keyAt_key (P : Nat → ByteArray) (i : Nat) : WideAt.IsKeyLit (keyAt P i) := by simp [keyAt, WideAt.IsKeyLit]

/-- What the inner loop has found of the last edit at i's path, after j rounds. -/
def lastTo (P : Nat → ByteArray) (i : Nat) : Nat → Nat
  | 0 => i
  | j + 1 => if P j = P i ∧ lastTo P i j < j then j else lastTo P i j
def firstTo (P : Nat → ByteArray) (i : Nat) : Nat → Bool
  | 0 => true
  | j + 1 => if P j = P i ∧ j < i then false else firstTo P i j
/-- How many of the first i edits are the first at their path. -/
def distinctTo (P : Nat → ByteArray) (n : Nat) : Nat → Nat
  | 0 => 0
  | i + 1 => distinctTo P n i + if firstTo P i n = true then 1 else 0

theorem lastTo_bd (P : Nat → ByteArray) (i n : Nat) (hi : i < n) : ∀ j, j ≤ n → lastTo P i j < n := by
  intro j
  induction j with
  | zero => intro _; exact hi
  | succ j ih =>
    intro hj
    simp only [lastTo]
    split
    · omega
    · exact ih (by omega)

theorem lastTo_spec (P : Nat → ByteArray) (i : Nat) : ∀ j, P (lastTo P i j) = P i ∧ i ≤ lastTo P i j ∧ ∀ k, k < j → P k = P i → k ≤ lastTo P i j := by
  intro j
  induction j with
  | zero => exact ⟨rfl, Nat.le_refl _, fun k hk => absurd hk (Nat.not_lt_zero _)⟩
  | succ j ih =>
    simp only [lastTo]
    split
    · rename_i h
      refine ⟨h.1, by omega, fun k hk hp => by omega⟩
    · rename_i h
      refine ⟨ih.1, ih.2.1, fun k hk hp => ?_⟩
      rcases Nat.lt_succ_iff_lt_or_eq.1 hk with h' | rfl
      · exact ih.2.2 k h' hp
      · have : ¬ lastTo P i k < k := fun e => h ⟨hp, e⟩
        omega

theorem firstTo_spec (P : Nat → ByteArray) (i : Nat) : ∀ j, firstTo P i j = true ↔ ∀ k, k < j → k < i → P k ≠ P i := by
  intro j
  induction j with
  | zero => simp [firstTo]
  | succ j ih =>
    simp only [firstTo]
    split
    · rename_i h
      simp only [Bool.false_eq_true, false_iff]
      intro hall
      exact hall j (by omega) h.2 h.1
    · rename_i h
      rw [ih]
      constructor
      · intro hall k hk hki
        rcases Nat.lt_succ_iff_lt_or_eq.1 hk with h' | rfl
        · exact hall k h' hki
        · exact fun e => h ⟨e, hki⟩
      · intro hall k hk hki
        exact hall k (by omega) hki

theorem mapTo_tidy (P : Nat → ByteArray) (E : Nat → ByteArray × ByteArray) : ∀ k, Tidy (mapTo P E k)
  | 0 => tidy_empty
  | k + 1 => (mapTo_tidy P E k).put (keyAt_key P k) _

theorem mapTo_has (P : Nat → ByteArray) (E : Nat → ByteArray × ByteArray) (i : Nat) : ∀ k, Maps.has (mapTo P E k) (keyAt P i) = true ↔ ∃ j, j < k ∧ P j = P i := by
  intro k
  induction k with
  | zero => simp [mapTo, Maps.has]
  | succ k ih =>
    simp only [mapTo]
    by_cases h : P k = P i
    · rw [← keyAt_inj.2 h, has_put_same (mapTo_tidy P E k).isMap (keyAt_key P k)]
      simp only [true_iff]
      exact ⟨k, by omega, h⟩
    · rw [has_put_other (fun e => h (keyAt_inj.1 e.symm)), ih]
      constructor
      · rintro ⟨j, hj, hp⟩; exact ⟨j, by omega, hp⟩
      · rintro ⟨j, hj, hp⟩
        refine ⟨j, ?_, hp⟩
        rcases Nat.lt_succ_iff_lt_or_eq.1 hj with h' | rfl
        · exact h'
        · exact absurd hp h

theorem mapTo_at (P : Nat → ByteArray) (E : Nat → ByteArray × ByteArray) (z : DataW Unit) (i l : Nat) (hl : P l = P i) : ∀ k, l < k → (∀ j, j < k → P j = P i → j ≤ l) → (mapTo P E k).atKey (keyAt P i) z = entryD (E l) := by
  intro k
  induction k with
  | zero => intro h; omega
  | succ k ih =>
    intro hlk hall
    simp only [mapTo]
    by_cases h : P k = P i
    · have : k ≤ l := hall k (by omega) h
      obtain rfl : k = l := by omega
      rw [← keyAt_inj.2 h, atKey_put_same (mapTo_tidy P E k).isMap (keyAt_key P k)]
    · rw [atKey_put_other (fun e => h (keyAt_inj.1 e.symm))]
      refine ih ?_ (fun j hj hp => hall j (by omega) hp)
      rcases Nat.lt_succ_iff_lt_or_eq.1 hlk with h' | rfl
      · exact h'
      · exact absurd hl h

theorem mapTo_size (P : Nat → ByteArray) (E : Nat → ByteArray × ByteArray) (n : Nat) : ∀ k, k ≤ n → Maps.size (mapTo P E k) = distinctTo P n k := by
  intro k
  induction k with
  | zero => intro _; rfl
  | succ k ih =>
    intro hk
    simp only [mapTo, distinctTo]
    rw [size_put (mapTo_tidy P E k), ih (by omega)]
    by_cases h : firstTo P k n = true
    · have hno : ¬ Maps.has (mapTo P E k) (keyAt P k) = true := by
        rw [mapTo_has]
        rintro ⟨j, hj, hp⟩
        exact (firstTo_spec P k n).1 h j (by omega) hj hp
      simp [h, hno]
    · have hyes : Maps.has (mapTo P E k) (keyAt P k) = true := by
        rw [mapTo_has]
        refine Classical.byContradiction fun hn => h ((firstTo_spec P k n).2 fun j _ hj hp => hn ⟨j, hj, hp⟩)
      simp [h, hyes]

theorem distinctTo_le (P : Nat → ByteArray) (n : Nat) : ∀ i, distinctTo P n i ≤ i := by
  intro i
  induction i with
  | zero => exact Nat.le_refl _
  | succ i ih => simp only [distinctTo]; split <;> omega

end Go.Proofs.Ybulkbleg
