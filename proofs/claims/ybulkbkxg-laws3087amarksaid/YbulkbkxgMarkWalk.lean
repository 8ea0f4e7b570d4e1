import Derived.Test.YbulkbkxgLib
import Derived.Deep.RegionLaw
import Derived.Deep.AppendLies
import Derived.Deep.DeepCutAuto
namespace Go.Proofs.Ybulkbkxg
open Go.RowKit

/-- Span k of the input as it lies in memory: its start and its owner's selector. -/
def SpanAt (B : Nat) (w : World) (ao : Option Addr) (k : Nat) (s o : Int) : Prop :=
  ∃ b off, ao = some ⟨b, off, none⟩ ∧ b < B ∧ w.cell? ⟨b, off + k * 2, none⟩ = some (.int .i64 s) ∧ w.cell? ⟨b, off + k * 2 + 1, none⟩ = some (.int .u8 o) ∧ 0 ≤ o ∧ o ≤ 255
theorem SpanAt.later {B : Nat} {w wr : World} {ao : Option Addr} {k : Nat} {s o : Int} (h : SpanAt B w ao k s o) (hb : Below B w wr) : SpanAt B wr ao k s o := by
  obtain ⟨b, off, h1, h2, h3, h4, h5⟩ := h
  exact ⟨b, off, h1, h2, (hb.cell (p := ⟨b, _, none⟩) h2).trans h3, (hb.cell (p := ⟨b, _, none⟩) h2).trans h4, h5⟩
/-- Selector k of the open ones. -/
def SelAt (B : Nat) (w : World) (ao : Option Addr) (k : Nat) (o : Int) : Prop :=
  ∃ b off, ao = some ⟨b, off, none⟩ ∧ b < B ∧ w.cell? ⟨b, off + k, none⟩ = some (.int .u8 o) ∧ 0 ≤ o ∧ o ≤ 255
theorem SelAt.later {B : Nat} {w wr : World} {ao : Option Addr} {k : Nat} {o : Int} (h : SelAt B w ao k o) (hb : Below B w wr) : SelAt B wr ao k o := by
  obtain ⟨b, off, h1, h2, h3, h5⟩ := h
  exact ⟨b, off, h1, h2, (hb.cell (p := ⟨b, _, none⟩) h2).trans h3, h5⟩

/-- The spans after k rounds. -/
def spansTo (B : Nat) (Z O : Nat → Int) : Nat → List (Int × Option Addr)
  | 0 => []
  | k + 1 => spansTo B Z O k ++ [(Z k, ownA B (O k % 5 - 1))]
theorem spansTo_length (B : Nat) (Z O : Nat → Int) (k : Nat) : (spansTo B Z O k).length = k := by
  induction k with
  | zero => rfl
  | succ k ih => simp [spansTo, ih]
/-- The open pointers after k rounds. -/
def openTo (B : Nat) (O : Nat → Int) : Nat → List (Option Addr)
  | 0 => []
  | k + 1 => openTo B O k ++ [ownA B (O k % 5 - 1)]
theorem openTo_length (B : Nat) (O : Nat → Int) (k : Nat) : (openTo B O k).length = k := by
  induction k with
  | zero => rfl
  | succ k ih => simp [openTo, ih]

/-- The pool and the set with its spans; nothing old has turned. -/
structure SetOf (w : World) (B : Nat) (wr : World) (L : List (Int × Option Addr)) : Prop where
  below : Below w.heap.size w wr
  hB : w.heap.size ≤ B
  size : B + 6 ≤ wr.heap.size
  pool : Pool (B + 4) B wr
  set : ∃ vsp, wr.heap[B + 5]? = some (.cells #[.slice none 0 0, vsp] 35 (0, 0)) ∧ wr.ownsRow (B + 6) 40 2 vsp L.length (flat L)

theorem SetOf.kept {w wr w2 : World} {B : Nat} {L : List (Int × Option Addr)} (h : SetOf w B wr L) (hk : Kept (fun _ => False) wr w2) : SetOf w B w2 L := by
  obtain ⟨vsp, s1, s2⟩ := h.set
  exact ⟨h.below.trans (hk.below (by have := h.size; have := h.hB; omega) (fun _ _ e => e)), h.hB, Nat.le_trans h.size hk.size, fun i hi => hk.cell (h.pool i hi) (fun e => e), ⟨vsp, hk.heap s1 (fun e => e), hk.owns s2 (fun _ _ e => e)⟩⟩

theorem SetOf.marked {w wr w2 : World} {B : Nat} {L L' : List (Int × Option Addr)} {vsp : Value} (h : SetOf w B wr L) (s2 : wr.ownsRow (B + 6) 40 2 vsp L.length (flat L))
    (hm : Marked (B + 5) (B + 6) (.slice none 0 0) vsp L' wr w2) : SetOf w B w2 L' := by
  obtain ⟨vsp', m1, m2, m3⟩ := hm
  have hlow : ∀ k, k < B + 5 → ¬ (k = B + 5 ∨ vsp.ownBlock = some k) := fun k hk e => by
    rcases e with e | e
    · omega
    · have := (s2.lt k e).1; omega
  exact ⟨h.below.trans (m3.below (by have := h.size; have := h.hB; omega) (fun k hk => hlow k (by have := h.hB; omega))), h.hB, Nat.le_trans h.size m3.size, fun i hi => m3.cell (h.pool i hi) (hlow _ (by show B + 4 < B + 5; omega)), ⟨vsp', m1, m2⟩⟩

/-- Behind the append of a span: the field can be stored; what the set then holds. -/
theorem SetOf.grown {w wr : World} {B k : Nat} {L : List (Int × Option Addr)} {vsp : Value} {s : Int} {A : Option Addr} (h : SetOf w B wr L) (hk : L.length = k) (s1 : wr.heap[B + 5]? = some (.cells #[.slice none 0 0, vsp] 35 (0, 0))) (s2 : wr.ownsRow (B + 6) 40 2 vsp k (flat L)) :
    ∀ v' w1, w1.ownsRow (B + 6) 40 2 v' (k + 1) (flat L ++ [.int .i64 s, .pointer A]) → (wr.alloc (.cells #[.int .i64 s, .pointer A] 40)).grownBy w1 vsp.ownBlock →
      w1.cell? ⟨B + 1 + 1 + 1 + 1 + 1, 1, none⟩ = some vsp ∧ w1.frozen? ⟨B + 1 + 1 + 1 + 1 + 1, 1, none⟩ = false ∧ SetOf w B (w1.setCell ⟨B + 1 + 1 + 1 + 1 + 1, 1, none⟩ v') (L ++ [(s, A)]) := by
  subst hk
  intro v' w1 h1 hg
  have hne : some (B + 5) ≠ vsp.ownBlock := fun e => by have := (s2.lt (B + 5) e.symm).1; omega
  have hS1 : w1.heap[B + 5]? = some (.cells #[.slice none 0 0, vsp] 35 (0, 0)) := by
    rw [hg.block (B + 5) (by have := h.size; simp; omega) hne, Below.heap_alloc _ _ _ (lt_of_block s1)]; exact s1
  exact ⟨two_cell1 hS1, block_free hS1, h.marked s2 (marked_append s1 (by omega) s2 h1 hg)⟩

theorem grown_drew {w w1 : World} {r : Option Nat} (h : w.drew.grownBy w1 r) : w.grownBy w1 r := ⟨h.os, h.tape, h.output, h.size, h.block⟩

theorem setOf_start {w : World} (o1 o2 o3 o4 : Obj) :
    SetOf w w.heap.size ((((((w.alloc o1).alloc o2).alloc o3).alloc o4).alloc (.cells #[.pointer (some ⟨w.heap.size, 0, none⟩), .pointer (some ⟨w.heap.size + 1, 0, none⟩), .pointer (some ⟨w.heap.size + 1 + 1, 0, none⟩), .pointer (some ⟨w.heap.size + 1 + 1 + 1, 0, none⟩)] 24)).alloc
      (.cells #[.slice none 0 0, .slice none 0 0] 35)) [] :=
  let h := inv_start (Below.refl w.heap.size w) o1 o2 o3 o4
  ⟨h.below, h.hB, h.size, h.pool, h.set⟩

/-! ### What is read behind mark -/
theorem owns_reads {w : World} {base n : Nat} {v : Value} {L : List (Int × Option Addr)} (h : w.ownsRow base 40 2 v n (flat L)) (hn : L.length = n) :
    ∃ av cv, v = .slice av n cv ∧ ∀ i (hi : i < L.length), ∃ g, av = some ⟨g, 0, none⟩ ∧ w.cell? ⟨g, i * 2, none⟩ = some (.int .i64 (L[i]).1) ∧ w.cell? ⟨g, i * 2 + 1, none⟩ = some (.pointer (L[i]).2) := by
  subst hn
  obtain ⟨av, cv, rfl⟩ := owns_shape h
  refine ⟨av, cv, rfl, fun i hi => ?_⟩
  obtain ⟨g, cap, hv, _⟩ := owns_some h (by omega)
  simp only [Value.slice.injEq, true_and] at hv
  obtain ⟨rfl, rfl⟩ := hv
  refine ⟨g, rfl, ?_, ?_⟩
  · rw [h.cellAt _ (by omega), flat_at0 _ _ hi]
  · rw [h.cellAt _ (by omega), flat_at1 _ _ hi]

theorem mark_cases2 {α : Type} (s : Int) (M : List (Int × α)) : (M = [] ∨ ∃ M' t q, M = M' ++ [(t, q)] ∧ t ≠ s) ∨ ∃ M' p, M = M' ++ [(s, p)] := by
  rcases List.eq_nil_or_concat M with h | ⟨M', ⟨t, p⟩, h⟩
  · exact Or.inl (Or.inl h)
  · rw [List.concat_eq_append] at h
    by_cases hts : t = s
    · subst hts; exact Or.inr ⟨M', p, h⟩
    · exact Or.inl (Or.inr ⟨M', t, p, h, hts⟩)

/-- The last of the open pointers; nil where there is none. -/
def lastOpen (L : List (Option Addr)) : Option Addr := match L.getLast? with | none => none | some p => p

theorem lastIs_of_open {w : World} {base m cp : Nat} {ap : Option Addr} {L : List (Option Addr)} (hm : L.length = m) (h : w.ownsRow base 24 1 (.slice ap m cp) m (L.map Value.pointer)) : LastIs w ap m (lastOpen L) := by
  subst hm
  rcases List.eq_nil_or_concat L with rfl | ⟨ys', o, rfl⟩
  · exact Or.inl ⟨rfl, rfl⟩
  · rw [List.concat_eq_append] at h ⊢
    obtain ⟨g, cap, hv, _⟩ := owns_some h (by simp)
    simp only [Value.slice.injEq, true_and] at hv
    obtain ⟨rfl, rfl⟩ := hv
    refine Or.inr ⟨g, 0, rfl, by simp, ?_⟩
    rw [h.cellAt _ (by simp)]
    simp [lastOpen]

theorem open_reads {w : World} {base base' m : Nat} {v v' : Value} {L : List (Option Addr)} (hm : L.length = m) (h : w.ownsRow base 24 1 v m (L.map Value.pointer)) (h' : w.ownsRow base' 24 1 v' m (L.map Value.pointer)) :
    ∃ a1 c1 a2 c2, v = .slice a1 m c1 ∧ v' = .slice a2 m c2 ∧ ∀ i, i < m → ∃ g1 g2 p, a1 = some ⟨g1, 0, none⟩ ∧ a2 = some ⟨g2, 0, none⟩ ∧ w.cell? ⟨g1, i, none⟩ = some (.pointer p) ∧ w.cell? ⟨g2, i, none⟩ = some (.pointer p) := by
  subst hm
  obtain ⟨a1, c1, rfl⟩ := owns_shape h
  obtain ⟨a2, c2, rfl⟩ := owns_shape h'
  refine ⟨a1, c1, a2, c2, rfl, rfl, fun i hi => ?_⟩
  obtain ⟨g1, rfl, _⟩ := slice_some h (by omega)
  obtain ⟨g2, rfl, _⟩ := slice_some h' (by omega)
  refine ⟨g1, g2, L[i], rfl, rfl, ?_, ?_⟩
  · rw [h.cellAt _ (by omega)]; simp [hi]
  · rw [h'.cellAt _ (by omega)]; simp [hi]

/-- What the end of the law reads: the set's two fields, its spans, the copy that was taken ahead of mark. -/
theorem tail_reads {w w4 : World} {B k base : Nat} {L M : List (Int × Option Addr)} {vb : Value} (hset : SetOf w B w4 M) (hvb : w4.ownsRow base 40 2 vb k (flat L)) (hL : L.length = k) :
    ∃ av cv ab cb, w4.cell? ⟨B + 1 + 1 + 1 + 1 + 1, 1, none⟩ = some (.slice av M.length cv) ∧ w4.cell? ⟨B + 1 + 1 + 1 + 1 + 1, 0, none⟩ = some (.slice none 0 0) ∧ vb = .slice ab k cb ∧
      (∀ i (hi : i < M.length), ∃ g, av = some ⟨g, 0, none⟩ ∧ w4.cell? ⟨g, i * 2, none⟩ = some (.int .i64 (M[i]).1) ∧ w4.cell? ⟨g, i * 2 + 1, none⟩ = some (.pointer (M[i]).2)) ∧
      (∀ i (hi : i < L.length), ∃ g, ab = some ⟨g, 0, none⟩ ∧ w4.cell? ⟨g, i * 2, none⟩ = some (.int .i64 (L[i]).1) ∧ w4.cell? ⟨g, i * 2 + 1, none⟩ = some (.pointer (L[i]).2)) := by
  obtain ⟨vsp, s1, s2⟩ := hset.set
  obtain ⟨av, cv, rfl, hM⟩ := owns_reads s2 rfl
  obtain ⟨ab, cb, rfl, hB⟩ := owns_reads hvb hL
  exact ⟨av, cv, ab, cb, two_cell1 s1, two_cell0 s1, rfl, hM, hB⟩

theorem pair_reads {w4 : World} {av ab : Option Addr} {L M : List (Int × Option Addr)} {n : Nat} (hn : n ≤ L.length) (hn2 : n ≤ M.length) (hsame : ∀ i (h1 : i < M.length) (h2 : i < L.length), i < n → M[i] = L[i])
    (hM : ∀ i (hi : i < M.length), ∃ g, av = some ⟨g, 0, none⟩ ∧ w4.cell? ⟨g, i * 2, none⟩ = some (.int .i64 (M[i]).1) ∧ w4.cell? ⟨g, i * 2 + 1, none⟩ = some (.pointer (M[i]).2))
    (hB : ∀ i (hi : i < L.length), ∃ g, ab = some ⟨g, 0, none⟩ ∧ w4.cell? ⟨g, i * 2, none⟩ = some (.int .i64 (L[i]).1) ∧ w4.cell? ⟨g, i * 2 + 1, none⟩ = some (.pointer (L[i]).2)) :
    ∀ i, i < n → ∃ gV gB s p, av = some ⟨gV, 0, none⟩ ∧ ab = some ⟨gB, 0, none⟩ ∧ w4.cell? ⟨gV, i * 2, none⟩ = some (.int .i64 s) ∧ w4.cell? ⟨gV, i * 2 + 1, none⟩ = some (.pointer p) ∧ w4.cell? ⟨gB, i * 2, none⟩ = some (.int .i64 s) ∧ w4.cell? ⟨gB, i * 2 + 1, none⟩ = some (.pointer p) := by
  intro i hi
  obtain ⟨gV, h1, h2, h3⟩ := hM i (by omega)
  obtain ⟨gB, k1, k2, k3⟩ := hB i (by omega)
  refine ⟨gV, gB, (L[i]'(by omega)).1, (L[i]'(by omega)).2, h1, k1, ?_, ?_, k2, k3⟩
  · rw [h2, hsame i _ _ hi]
  · rw [h3, hsame i _ _ hi]

set_option maxHeartbeats 4000000 in
set_option maxRecDepth 100000 in
theorem mark_walk (ao bo : Option Addr) (n cap m cap2 : Nat) (st : Int) (same : Bool) (Z O U : Nat → Int) (w : World) (hn : n ≤ 1024) (hm : m ≤ 1024)
    (hsp : ∀ k, k < n → SpanAt w.heap.size w ao k (Z k) (O k)) (hop : ∀ k, k < m → SelAt w.heap.size w bo k (U k)) :
    Calls Yba.prog 3 #[.slice ao n cap, .int .i64 st, .bool same, .slice bo m cap2] w fun e w' => e = .returned (.bool true) ∧ Below w.heap.size w w' := by
  have hle : ¬ (1024 : Int) < (n : Int) := by omega
  have hle2 : ¬ (1024 : Int) < (m : Int) := by omega
  have HSP := hidden hsp
  have HOP := hidden hop
  clear hsp hop
  obtain ⟨i40, hi40, hx0, hx1, hx2⟩ := info_parts Yba.info40
  go_enter Yba.func3, Yba.ntmps3
  go_wp2
  go_loopw [12, 43] (fun _ i wr => ∃ k : Nat, k ≤ n ∧ i = .int .i64 k ∧ SetOf w w.heap.size wr (spansTo w.heap.size Z O k))
    (fun _ i _ => n - (intOf i).toNat)
  case atStart => exact ⟨0, Nat.zero_le _, rfl, setOf_start _ _ _ _⟩
  case round =>
    obtain ⟨k, hk, rfl, hset⟩ := hrel
    by_cases hlt : k < n
    · obtain ⟨b, off, rfl, hb, hc0, hc1, ho0, ho1⟩ := (HSP.out k hlt).later hset.below
      obtain ⟨vsp, s1, s2⟩ := hset.set
      have hL := spansTo_length w.heap.size Z O k
      rw [hL] at s2
      have HL : Hid (spansTo w.heap.size Z O (k + 1) = spansTo w.heap.size Z O k ++ [(Z k, ownA w.heap.size (O k % 5 - 1))]) := rfl
      clear HSP HOP
      generalize spansTo w.heap.size Z O k = L at *
      generalize Z k = s at *
      generalize O k = o at *
      go_wp2
      obtain ⟨wb, hwb⟩ : ∃ wb, wb = wr.alloc (.cells #[.int .i64 s, .int .u8 o] 37) := ⟨_, rfl⟩
      have hkb : Kept (fun _ => False) wr wb := by rw [hwb]; exact (Kept.refl _ wr).alloc _
      have hbx : wb.heap[wr.heap.size]? = some (.cells #[.int .i64 s, .int .u8 o] 37 (0, 0)) := by rw [hwb]; exact heap_alloc_new wr _
      have hset2 := hset.kept hkb
      have t1 := hkb.heap s1 (fun e => e)
      have t2 := hkb.owns s2 (fun _ _ e => e)
      have b0 := two_cell0 hbx
      have b1 := two_cell1 hbx
      have hQ : wr.heap.size < wb.heap.size := lt_of_block hbx
      have hQ2 : w.heap.size + 6 ≤ wr.heap.size := hset.size
      have hcs : wb.cell? ⟨w.heap.size + 1 + 1 + 1 + 1 + 1, 1, none⟩ = some vsp := two_cell1 t1
      have hcs2 : ∀ ob, (wb.alloc ob).cell? ⟨w.heap.size + 1 + 1 + 1 + 1 + 1, 1, none⟩ = some vsp := fun ob => (World.cell?_alloc_past ob _ _ (lt_of_block t1)).trans hcs
      have hpool := hset2.pool
      have hsz := hset2.size
      have HF := hidden (hset2.grown (s := s) (A := ownA w.heap.size (o % 5 - 1)) hL t1 t2)
      have T2 := hidden t2
      rw [← hwb]
      clear hset s1 s2 hkb hbx hwb hc0 hc1 hset2 t1 t2
      generalize wr.heap.size = Q at *
      have HPL := hidden hpool
      clear hpool
      go_region_law
        (first
          | (refine step_append_lies _ rfl (.tmp 51) (.tmp 59) 33 rfl (w.heap.size + 6) 40 i40 _ 2 16 Yba.underlying33 hi40 hx0 hx1 hx2 rfl (by decide) vsp k (flat L) (by simp [Act.eval]) (by exact T2.out.alloc _) ⟨wb.heap.size, 0, none⟩ 1 1 [.int .i64 s, .pointer (ownA w.heap.size (o % 5 - 1))] (by simp [Act.eval]) rfl (by exact cells_two_new wb _ _ _ 40 rfl) (by intro u hu; simp at hu; rcases hu with rfl | rfl <;> rfl) (by decide) (by unfold maxLen; omega) (by omega) (by simp; omega) _ rfl ?_; intro g cp w1 hown1 hgrow1 _ _; obtain ⟨hv1, hf1, hS1⟩ := HF.out _ w1 hown1 (grown_drew hgrow1); clear hown1 hgrow1)
          | (go_simp; go_at_call 5; refine (pick_any _ w.heap.size _ ho0 ho1 _ (by exact HPL.out)).mono ?_; rintro e w' ⟨rfl, rfl⟩))
      all_goals
        go_wp2
        go_roundw
        case rel => rw [← HL.out] at hS1; exact ⟨k + 1, by omega, by go_num, hS1⟩
        case measure => simp [intOf]; omega
    · obtain rfl : k = n := by omega
      obtain ⟨vsp, s1, s2⟩ := hset.set
      have hL := spansTo_length w.heap.size Z O k
      rw [hL] at s2
      have hcs : wr.cell? ⟨w.heap.size + 1 + 1 + 1 + 1 + 1, 1, none⟩ = some vsp := two_cell1 s1
      have HCL := hidden (clone_span (w.heap.size + 6) vsp k (spansTo w.heap.size Z O k) wr s2 (by omega))
      have hQ : w.heap.size + 6 ≤ wr.heap.size := hset.size
      have S1 := hidden s1
      clear s1
      rename World => w1
      obtain ⟨i24, hi24, hz0, hz1, hz2⟩ := info_parts Yba.info24
      go_wp2_with (first
        | (go_at_call 6; refine HCL.out.mono ?_; rintro e w2 ⟨vb, rfl, hvb, hk2⟩)
        | (at_make; refine wpList_make_own _ rfl _ _ 28 rfl w2.heap.size 24 i24 (.pointer none) 1 Yba.underlying28 hi24 hz0 hz1 _ _ _ m rfl rfl (by omega) (by rw [hz2]; omega) (by unfold maxLen; omega) (Nat.le_refl _) ?_; intro wm hownm hgrowm))
      have hkm := kept_of_none hgrowm
      have hset2 := hset.kept hk2
      clear hgrowm HCL hset hcs
      go_loopw [14, 16, 74] (fun vop _ i wi => ∃ q : Nat, q ≤ m ∧ i = .int .i64 q ∧ wi.ownsRow w2.heap.size 24 1 vop q ((openTo w.heap.size U q).map Value.pointer) ∧ Kept (fun _ => False) w2 wi)
        (fun _ _ i _ => m - (intOf i).toNat)
      case atStart => exact ⟨0, Nat.zero_le _, rfl, by simpa [openTo] using hownm, hkm⟩
      case round =>
        rename World => wi
        obtain ⟨q, hq, rfl, hown, hk⟩ := hrel
        have hset3 := hset2.kept hk
        have hle3 := hk.size
        by_cases hql : q < m
        · obtain ⟨b', o', rfl, hb', hcy, hq0, hq1⟩ := (HOP.out q hql).later hset3.below
          have HPL := hidden hset3.pool
          have HT : Hid (openTo w.heap.size U (q + 1) = openTo w.heap.size U q ++ [ownA w.heap.size (U q % 5 - 1)]) := rfl
          clear hownm hkm hvb s2 hk2 hset2 hset3 HSP HOP
          generalize openTo w.heap.size U q = M at *
          generalize U q = y at *
          go_wp2_with (first
            | (go_at_call 5; refine (pick_any _ w.heap.size _ hq0 hq1 _ HPL.out).mono ?_; rintro e w' ⟨rfl, rfl⟩)
            | (at_builtin; refine wpList_append_own _ rfl (.tmp 78) (.tmp 82) 28 rfl w2.heap.size 24 i24 (.pointer none) 1 8 Yba.underlying28 hi24 hz0 hz1 hz2 rfl (by decide) _ q _ rfl (hown.alloc _) ⟨wi.heap.size, 0, none⟩ 1 1 [.pointer (ownA w.heap.size (y % 5 - 1))] rfl rfl (cell_one_new _ _ _) (by intro u hu; simp at hu; subst hu; rfl) (by unfold maxLen; omega) (by omega) (by simp; omega) ?_; intro v' w3 hown1 hgrow1 _))
          go_roundw
          case rel =>
            go_light
            refine ⟨q + 1, by omega, by go_num, by rw [HT.out, List.map_append]; exact hown1, (hk.alloc _).grown hgrow1 (fun g hg e => ?_)⟩
            have := (hown.lt g e).1
            omega
          case measure => simp [intOf]; omega
        · obtain rfl : q = m := by omega
          obtain ⟨ap, cp, rfl⟩ := owns_shape hown
          have hLo := openTo_length w.heap.size U q
          have HCP := hidden (clone_ptr w2.heap.size (.slice ap q cp) q (openTo w.heap.size U q) wi hown (by omega))
          clear hownm hkm hi24 hz0 hz1 hz2 hi40 hx0 hx1 hx2 HOP
          go_upto_region 18 with (go_at_call 7; refine HCP.out.mono ?_; rintro e w3 ⟨vo, rfl, hvo, hk3⟩)
          have hset4 := (hset2.kept hk).kept hk3
          clear HCP hset3 hset2
          have hown3 := hk3.owns hown (fun _ _ e => e)
          have hlastI := lastIs_of_open hLo hown3
          have HLast := hidden hlastI
          have hvb3 := (hk2.then (hk.then hk3 (fun _ _ e => e)) (fun _ _ e => e))
          clear hlastI
          go_cut [92] from 87 to 92 (fun b wc => (∃ bb, b = .bool bb ∧ (bb = true → 0 < k)) ∧ w3 = wc)
          case first =>
            cases same
            all_goals
              go_wp2
              go_meet
              case rel => exact ⟨⟨_, rfl, by simp⟩, rfl⟩
          case rest =>
            obtain ⟨⟨bb, rfl, hbk⟩, rfl⟩ := hcut
            have HBK := hidden hbk
            clear hbk
            go_upto_if 92 with fail
            go_cut [1] from 93 to 99 (fun s wc => (∃ x, s = .int .i64 x) ∧ w3 = wc)
            case first =>
              cases bb
              · go_wp2
                go_meet
                case rel => exact ⟨⟨_, rfl⟩, rfl⟩
              · have hk0 : 0 < k := HBK.out rfl
                obtain ⟨b', o', rfl, hb', hcz, _⟩ := (HSP.out (k - 1) (by omega)).later hset4.below
                have hlast : (k : Int) - 1 < (k : Int) := by omega
                go_wp2
                go_meet
                case rel => exact ⟨⟨_, rfl⟩, rfl⟩
            case rest =>
              obtain ⟨⟨st', rfl⟩, rfl⟩ := hcut
              go_upto_if 102 with fail
              go_cut [18] from 103 to 108 (fun p wc => p = .pointer (lastOpen (openTo w.heap.size U q)) ∧ w3 = wc)
              case first =>
                rcases HLast.out with ⟨rfl, h0⟩ | ⟨g, o', rfl, hpos, hcl⟩
                · have H0 := hidden h0
                  clear h0
                  go_wp2
                  go_meet
                  case rel => exact ⟨by rw [H0.out], rfl⟩
                · have hlast : (q : Int) - 1 < (q : Int) := by omega
                  go_wp2
                  go_meet
                  case rel => exact ⟨rfl, rfl⟩
              case rest =>
                obtain ⟨rfl, rfl⟩ := hcut
                have t1 := hvb3.heap S1.out (fun e => e)
                have t2 := hvb3.owns s2 (fun _ _ e => e)
                have t2' : w3.ownsRow (w.heap.size + 6) 40 2 vsp (spansTo w.heap.size Z O k).length (flat (spansTo w.heap.size Z O k)) := by rw [hL]; exact t2
                have HMK := hidden (mark_any (w.heap.size + 5) (w.heap.size + 6) st' ap q cp (lastOpen (openTo w.heap.size U q)) (.slice none 0 0) vsp (spansTo w.heap.size Z O k) w3 t1 (by omega) hset4.size t2' (by omega) (by omega) HLast.out)
                have hsz1 := hk2.size
                have HAM : Hid (∀ w4, Marked (w.heap.size + 5) (w.heap.size + 6) (.slice none 0 0) vsp (markL st' (lastOpen (openTo w.heap.size U q)) (spansTo w.heap.size Z O k)) w3 w4 →
                    SetOf w w.heap.size w4 (markL st' (lastOpen (openTo w.heap.size U q)) (spansTo w.heap.size Z O k)) ∧ w4.ownsRow w1.heap.size 40 2 vb k (flat (spansTo w.heap.size Z O k)) ∧
                    w4.ownsRow w2.heap.size 24 1 (.slice ap q cp) q ((openTo w.heap.size U q).map Value.pointer) ∧ w4.ownsRow wi.heap.size 24 1 vo q ((openTo w.heap.size U q).map Value.pointer)) := by
                  intro w4 hmk
                  have hk4 : Kept (fun k => k < w1.heap.size) w3 w4 := by
                    obtain ⟨_, _, _, m3⟩ := hmk
                    refine m3.mono (fun i _ e => ?_)
                    rcases e with e | e
                    · omega
                    · exact (s2.lt i e).2
                  refine ⟨hset4.marked t2' hmk, hk4.owns ((hk.then hk3 (fun _ _ e => e)).owns hvb (fun _ _ e => e)) (fun g hg e => ?_), hk4.owns hown3 (fun g hg e => ?_), hk4.owns hvo (fun g hg e => ?_)⟩
                  · have := (hvb.lt g hg).1; omega
                  · have := (hown3.lt g hg).1; omega
                  · have := (hvo.lt g hg).1; omega
                have hneq := fun (wx : World) => run_neq_slice_nil_any (P := Yba.prog) wx 28 24 none 0 0 0 0 Yba.underlying28
                clear t1 t2 t2' hset4 hvo hown3 hown hvb hk2 hk hk3 hvb3 HLast HBK HSP s2 S1
                generalize lastOpen (openTo w.heap.size U q) = A at *
                generalize openTo w.heap.size U q = Lo at *
                generalize spansTo w.heap.size Z O k = L at *
                rcases mark_cases2 st' L with hne | ⟨L', p, hLc⟩
                · have hmE : markL st' A L = L ++ [(st', A)] := by
                    rcases hne with rfl | ⟨M', t, q', rfl, hts⟩
                    · rfl
                    · exact markL_other _ _ _ _ _ hts
                  rw [hmE] at HMK HAM
                  have HNE := hidden hne
                  clear hmE hne
                  go_upto_region 27 with (first
                    | (go_at_call 8; refine HMK.out.mono ?_; rintro e w4 ⟨rfl, hmk⟩; obtain ⟨hset5, hvb4, hop4, hvo4⟩ := HAM.out w4 hmk; obtain ⟨a1, c1, a2, c2, ha1, rfl, hrd⟩ := open_reads hLo hop4 hvo4; have HEQ := hidden (equal_ptr ap a2 q cp c2 w4 (by omega) (by simp only [Value.slice.injEq, true_and] at ha1; obtain ⟨rfl, rfl⟩ := ha1; exact hrd)); have hbl := hset5.below; obtain ⟨av, cv, ab, cb, hc5, hc6, rfl, hM5, hB5⟩ := tail_reads hset5 hvb4 hL; have HM5 := hidden hM5; have HB5 := hidden hB5; clear hset5 hvb4 hop4 hvo4 hrd ha1 hmk hM5 hB5)
                    | (go_at_call 9; refine HEQ.out.mono ?_; rintro e w5 ⟨rfl, mq, rfl⟩))
                  have hlen : (L ++ [(st', A)]).length = k + 1 := by simp [hL]
                  rw [hlen] at hc5
                  have HR := hidden (pair_reads (n := k) (by omega) (by omega) (fun i h1 h2 _ => List.getElem_append_left h2) HM5.out HB5.out)
                  obtain ⟨gE, hav, hE0, hE1⟩ := HM5.out k (by omega)
                  rw [List.getElem_append_right (by omega)] at hE0 hE1
                  simp only [hL, Nat.sub_self, List.getElem_singleton] at hE0 hE1
                  subst hav
                  have HB6 := hidden HB5.out
                  clear HM5 HAM HMK HEQ HB5
                  rcases HNE.out with h0 | ⟨L', t, p, hLc, hts⟩
                  focus
                    have hk0 : ¬ (0 : Int) < (k : Int) := by rw [← hL, h0]; simp
                    clear h0 HB6 HNE hlen
                    go_wp2
                  rotate_left
                  focus
                    have hk0 : (0 : Int) < (k : Int) := by rw [← hL, hLc]; simp
                    have hk1 : (k : Int) - 1 < (k : Int) := by omega
                    obtain ⟨gB, rfl, hB0, hB1⟩ := HB6.out (k - 1) (by omega)
                    have hB0' : w4.cell? ⟨gB, (k - 1) * 2, none⟩ = some (.int .i64 t) := by
                      rw [hB0]
                      subst hLc
                      simp at hL
                      subst hL
                      simp
                    have htb : (t == st') = false := by simpa using hts
                    clear hB0 hB1 HB6 hLc hts HNE hlen
                    go_wp2
                  all_goals
                    go_loopw [21] (fun i wx => ∃ j n' : Nat, j ≤ k ∧ i = .int .i64 j ∧ wx = w4.drewN n') (fun i _ => k - (intOf i).toNat)
                    case atStart => exact ⟨0, mq, Nat.zero_le _, rfl, rfl⟩
                    case round =>
                      obtain ⟨j, n', hj, rfl, rfl⟩ := hrel
                      by_cases hjl : j < k
                      · obtain ⟨gV, gC, s, p, hgE, hgC, h1, h2, h3, h4⟩ := HR.out j hjl
                        first | subst hgC | (simp only [Option.some.injEq, Addr.mk.injEq, and_true] at hgC; subst hgC)
                        simp only [Option.some.injEq, Addr.mk.injEq, and_true] at hgE
                        subst hgE
                        have hse := fun wx => span_equal s p wx
                        have hjk : (j : Int) < (k : Int) := by omega
                        have hjk1 : (j : Int) < (k : Int) + 1 := by omega
                        clear HR
                        go_wp2
                        go_quiet (fail)
                        go_wp2
                        go_roundw
                        case rel => exact ⟨j + 1, n' + nq, by omega, by go_num, rfl⟩
                        case measure => simp [intOf]; omega
                      · obtain rfl : j = k := by omega
                        have hse := fun wx => span_equal st' A wx
                        have hjk1 : (j : Int) < (j : Int) + 1 := by omega
                        clear HR
                        go_wp2
                        go_ret
                        exact ⟨rfl, hbl.trans ⟨rfl, rfl, rfl, Nat.le_refl _, fun _ _ => rfl⟩⟩
                · have hmE : markL st' A L = L' ++ [(st', A)] := by rw [hLc]; exact markL_same _ _ _ _
                  rw [hmE] at HMK HAM
                  have HLc := hidden hLc
                  clear hmE hLc
                  go_upto_region 27 with (first
                    | (go_at_call 8; refine HMK.out.mono ?_; rintro e w4 ⟨rfl, hmk⟩; obtain ⟨hset5, hvb4, hop4, hvo4⟩ := HAM.out w4 hmk; obtain ⟨a1, c1, a2, c2, ha1, rfl, hrd⟩ := open_reads hLo hop4 hvo4; have HEQ := hidden (equal_ptr ap a2 q cp c2 w4 (by omega) (by simp only [Value.slice.injEq, true_and] at ha1; obtain ⟨rfl, rfl⟩ := ha1; exact hrd)); have hbl := hset5.below; obtain ⟨av, cv, ab, cb, hc5, hc6, rfl, hM5, hB5⟩ := tail_reads hset5 hvb4 hL; have HM5 := hidden hM5; have HB5 := hidden hB5; clear hset5 hvb4 hop4 hvo4 hrd ha1 hmk hM5 hB5)
                    | (go_at_call 9; refine HEQ.out.mono ?_; rintro e w5 ⟨rfl, mq, rfl⟩))
                  have hkl : k = L'.length + 1 := by rw [← hL, HLc.out]; simp
                  have hlen : (L' ++ [(st', A)]).length = k := by simp [hkl]
                  rw [hlen] at hc5
                  have HR := hidden (pair_reads (n := k - 1) (by omega) (by omega) (fun i h1 h2 hi => by
                    have hi2 : i < L'.length := by omega
                    have e1 : (L' ++ [(st', A)])[i] = L'[i] := List.getElem_append_left hi2
                    have e2 : L[i] = L'[i] := by
                      have hh := HLc.out
                      subst hh
                      exact List.getElem_append_left hi2
                    rw [e1, e2]) HM5.out HB5.out)
                  obtain ⟨gE, hav, hE0, hE1⟩ := HM5.out (k - 1) (by omega)
                  rw [List.getElem_append_right (by omega)] at hE0 hE1
                  simp only [List.getElem_singleton] at hE0 hE1
                  subst hav
                  obtain ⟨gB, rfl, hB0, hB1⟩ := HB5.out (k - 1) (by omega)
                  have hB0' : w4.cell? ⟨gB, (k - 1) * 2, none⟩ = some (.int .i64 st') := by
                    rw [hB0]
                    have hh := HLc.out
                    subst hh
                    simp [hkl]
                  have hk0 : (0 : Int) < (k : Int) := by omega
                  have hk1 : (k : Int) - 1 < (k : Int) := by omega
                  have hss : (st' == st') = true := by simp
                  have hpe := fun wx => ptr_eql A wx
                  clear hB0 hB1 HM5 HB5 HAM HMK HEQ hkl hlen HLc
                  go_wp2
                  go_loopw [20] (fun i wx => ∃ j n' : Nat, j ≤ k - 1 ∧ i = .int .i64 j ∧ wx = w4.drewN n') (fun i _ => k - (intOf i).toNat)
                  case atStart => exact ⟨0, mq, Nat.zero_le _, rfl, rfl⟩
                  case round =>
                    obtain ⟨j, n', hj, rfl, rfl⟩ := hrel
                    by_cases hjl : j < k - 1
                    · obtain ⟨gV, gC, s, p, hgE, hgC, h1, h2, h3, h4⟩ := HR.out j hjl
                      simp only [Option.some.injEq, Addr.mk.injEq, and_true] at hgE hgC
                      subst hgE hgC
                      have hse := fun wx => span_equal s p wx
                      have hjk : (j : Int) < (k : Int) - 1 := by omega
                      have hjk1 : (j : Int) < (k : Int) := by omega
                      clear HR
                      go_wp2
                      go_quiet (fail)
                      go_wp2
                      go_roundw
                      case rel => exact ⟨j + 1, n' + nq, by omega, by go_num, rfl⟩
                      case measure => simp [intOf]; omega
                    · have hjk : ¬ (j : Int) < (k : Int) - 1 := by omega
                      clear HR
                      go_wp2
                      go_ret
                      exact ⟨rfl, hbl.trans ⟨rfl, rfl, rfl, Nat.le_refl _, fun _ _ => rfl⟩⟩

end Go.Proofs.Ybulkbkxg
