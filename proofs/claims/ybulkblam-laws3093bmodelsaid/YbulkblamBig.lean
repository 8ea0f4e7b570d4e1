import Derived.Test.YbulkblamCopy
namespace Go.Proofs.Ybulkblam
open Go.RowKit
set_option linter.unusedVariables false
set_option linter.unusedSimpArgs false

/-- The first k fields pass the law's own test. -/
def Brief (fs : List Fld) (k : Nat) : Prop := ∀ (j : Nat) (n : ByteArray) (x : Value) (ns : List Int), j < k → fs[j]? = some (n, x, ns) → n.size ≤ 131072 ∧ ns.length ≤ 65536

theorem Brief.next {fs : List Fld} {k : Nat} {n : ByteArray} {x : Value} {ns : List Int} (h : Brief fs k) (hk : fs[k]? = some (n, x, ns)) (h1 : n.size ≤ 131072) (h2 : ns.length ≤ 65536) : Brief fs (k + 1) := by
  intro j n' x' ns' hj hf
  by_cases e : j = k
  · subst e
    rw [hk] at hf
    simp only [Option.some.injEq, Prod.mk.injEq] at hf
    obtain ⟨rfl, rfl, rfl⟩ := hf
    exact ⟨h1, h2⟩
  · exact h j n' x' ns' (by omega) hf

theorem Inv2.kept {w wr : World} {fs : List Fld} {k : Nat} (h : Inv2 w fs k wr) : w.keptBut wr (fun _ => False) := by
  obtain ⟨gs, _, _, _, _, h, _⟩ := h
  exact h

theorem inv2_room {w wr w1 : World} {fs : List Fld} {k : Nat} {v : Value} (h : Inv2 w fs k wr) (hk : k < fs.length) (hp : Put wr (.slice none 0 0) w1 v) :
    ∃ u0 u1, w1.cell? ⟨w.heap.size, k * 2, none⟩ = some u0 ∧ w1.cell? ⟨w.heap.size, k * 2 + 1, none⟩ = some u1 ∧ w1.frozen? ⟨w.heap.size, k * 2, none⟩ = false ∧ w1.frozen? ⟨w.heap.size, k * 2 + 1, none⟩ = false ∧ w.heap.size < w1.heap.size := by
  obtain ⟨gs, _, _, _, hro, _, hs⟩ := h
  have hro1 := hro.kept hs hp.1
  obtain ⟨u0, hu0⟩ := Option.isSome_iff_exists.1 (hro1 (k * 2) (by omega)).1
  obtain ⟨u1, hu1⟩ := Option.isSome_iff_exists.1 (hro1 (k * 2 + 1) (by omega)).1
  exact ⟨u0, u1, hu0, hu1, (hro1 (k * 2) (by omega)).2, (hro1 (k * 2 + 1) (by omega)).2, Nat.lt_of_lt_of_le hs hp.1.size⟩

theorem old_cell {w w1 : World} {v y : Value} {g o : Nat} (hp : Put w (.slice none 0 0) w1 v) (h : w.cell? ⟨g, o, none⟩ = some y) : w1.cell? ⟨g, o, none⟩ = some y := by
  rw [hp.nil.cell (World.block_lt_of_cell? _ _ h) id]
  exact h

theorem kept_drew (w : World) : w.keptBut w.drew (fun _ => False) := ⟨rfl, rfl, (World.keptBut_refl w (fun _ => False)).2.2⟩

theorem Brief.small {fs gs : List Fld} (h : Brief fs fs.length) (c : Copied fs gs fs.length) : Small gs := by
  intro k n x ns hk
  obtain ⟨x', hx⟩ := c.2 k n x ns hk
  obtain ⟨h1, h2⟩ := h k n x' ns (List.getElem?_eq_some_iff.1 hx).1 hx
  exact ⟨h1, by omega⟩

/-- AppendRequest over the copies. -/
theorem req_copies {w wr w1 : World} {fs : List Fld} {v1 : Value} {zs : List Int} {oper : ByteArray} {a b : Int} (h : Inv2 w fs fs.length wr) (hr1 : Row w1 v1 zs) (hp1 : Put wr (.slice none 0 0) w1 v1) (hbr : Brief fs fs.length) (h3 : fs.length ≤ 1024) (hz : zs.length ≤ 4096)
    (ho : oper.size ≤ 131072) (ha : a ≤ 9223372036854775807) (hbb : b ≤ 9223372036854775807) :
    Calls Yba.prog 13 #[v1, .string oper, .int .i64 a, .int .i64 b, .slice (some ⟨w.heap.size, 0, none⟩) fs.length fs.length] w1 (Adds v1 zs (headList fs.length oper a b ++ fieldsList fs) w1) := by
  obtain ⟨gs, hc, hh, hbs, hro, hkp, hs⟩ := h
  have := req_any hr1 oper a b w.heap.size fs.length gs (by rw [hc.1]; exact h3) (hbr.small hc) (hh.put (hh.clear hs) hp1) ((hh.clear hs).put hp1) (by omega) ha hbb
  rw [hc.1, hc.list] at this
  exact this

/-- What stands behind it. -/
theorem got_facts {w wr w1 w2 : World} {fs : List Fld} {v0 v1 v2 : Value} {zs ns : List Int} (h : Inv2 w fs fs.length wr) (hd : Lies w v0 zs) (hr1 : Row w1 v1 zs) (hp1 : Put wr (.slice none 0 0) w1 v1) (hr2 : Row w2 v2 (zs ++ ns)) (hp2 : Put w1 v1 w2 v2) :
    w.keptBut w2 (fun _ => False) ∧ Lies w2 v0 zs ∧ Lies w2 v1 zs ∧ Lies w2 v2 (zs ++ ns) :=
  have k := kept_trans h.kept (hp1.trans hp2).nil
  ⟨k, hd.old k, hr1.lies.put hp2, hr2.lies⟩

theorem want_start {w2 w3 w4 : World} {v3 v4 : Value} {zs hs : List Int} (hr3 : Row w3 v3 ([] ++ zs)) (hp3 : Put w2 (.slice none 0 0) w3 v3) (hr4 : Row w4 v4 (([] ++ zs) ++ hs)) (hp4 : Put w3 v3 w4 v4) : Sofar w2 (.slice none 0 0) [] (zs ++ hs) w4 v4 :=
  (Sofar.first hr3 hp3).more hr4 hp4

theorem want_mid {w w2 wx w5 : World} {u v5 : Value} {us : List Int} {fs : List Fld} {g off k d : Nat} {n : ByteArray} {q : Option Addr} {ns : List Int} (hs : Sofar w2 (.slice none 0 0) [] us wx u) (hr : Row w5 v5 (([] ++ us) ++ encStr n)) (hp : Put wx u w5 v5)
    (hh : Held w g off fs) (hk : w.keptBut w2 (fun _ => False)) (hf : fs[k]? = some (n, .slice q ns.length d, ns)) :
    Sofar w2 (.slice none 0 0) [] (us ++ encStr n) w5 v5 ∧ w5.cell? ⟨g, off + k * 2 + 1, none⟩ = some (.slice q ns.length d) ∧ Lies w5 (.slice q ns.length d) ns ∧ g < w5.heap.size := by
  have hs2 := hs.more hr hp
  obtain ⟨c0, c1, hl⟩ := (hh.old (kept_trans hk hs2.2.nil)) k n _ ns hf
  rw [Nat.mul_comm] at c1
  exact ⟨hs2, c1, hl, World.block_lt_of_cell? _ _ c1⟩

theorem want_end {w w2 wx : World} {u v0 v1 v2 : Value} {zs hs : List Int} {fs : List Fld} (h : Sofar w2 (.slice none 0 0) [] (zs ++ (hs ++ fieldsList (fs.take fs.length))) wx u) (hk : w.keptBut w2 (fun _ => False)) (hd : Lies w2 v0 zs) (hD : Lies w2 v1 zs) (hG : Lies w2 v2 (zs ++ (hs ++ fieldsList fs))) :
    Lies wx u (zs ++ (hs ++ fieldsList fs)) ∧ Lies wx v0 zs ∧ Lies wx v1 zs ∧ Lies wx v2 (zs ++ (hs ++ fieldsList fs)) ∧ w.keptBut wx (fun _ => False) := by
  have k := h.2.nil
  refine ⟨?_, hd.old k, hD.old k, hG.old k, kept_trans hk k⟩
  have := h.1.lies
  rw [List.take_length] at this
  exact this

theorem brief_len {fs : List Fld} (h : Brief fs fs.length) (k : Nat) (hk : k ≤ fs.length) : (fieldsList (fs.take k)).length ≤ k * 262200 :=
  fieldsList_len (fun j n x ns hj => ⟨(h j n x ns (List.getElem?_eq_some_iff.1 hj).1 hj).1, by have := (h j n x ns (List.getElem?_eq_some_iff.1 hj).1 hj).2; omega⟩) k hk

set_option maxHeartbeats 2000000 in
set_option maxRecDepth 100000 in
theorem model_walk (p : Option Addr) (c : Nat) (zs : List Int) (oper : ByteArray) (a b : Int) (ao : Option Addr) (cap g off : Nat) (fs : List Fld) (w : World) (hd : Lies w (.slice p zs.length c) zs) (h1 : zs.length ≤ 4096) (h2 : oper.size ≤ 131072) (h3 : fs.length ≤ 1024)
    (hF : 0 < fs.length → ao = some ⟨g, off, none⟩) (hh : Held w g off fs) (ha : a ≤ 9223372036854775807) (hbb : b ≤ 9223372036854775807) :
    Calls Yba.prog 6 #[.slice p zs.length c, .string oper, .int .i64 a, .int .i64 b, .slice ao fs.length cap] w (Fine w) := by
  have i1 : ¬ (4096 : Int) < (zs.length : Int) := by omega
  have i2 : ¬ (131072 : Int) < (oper.size : Int) := by omega
  have i3 : ¬ (1024 : Int) < (fs.length : Int) := by omega
  have HD := hidden hd
  have HF := hidden hF
  have HH := hidden hh
  clear hd hF hh
  go_enter Yba.func6, Yba.ntmps6
  go_wp2
  go_loopw [11] (fun i wr => ∃ k : Nat, k ≤ fs.length ∧ i = .int .i64 k ∧ w = wr ∧ Brief fs k) (fun i _ => fs.length - (intOf i).toNat)
  case atStart => exact ⟨0, Nat.zero_le _, rfl, rfl, fun _ _ _ _ h => absurd h (Nat.not_lt_zero _)⟩
  case round =>
    obtain ⟨k, hk, rfl, rfl, hbr⟩ := hrel
    have HB := hidden hbr
    clear hbr
    by_cases hlt : k < fs.length
    · obtain rfl := HF.out (by omega)
      have hfk : fs[k]? = some (fs[k].1, fs[k].2.1, fs[k].2.2) := List.getElem?_eq_getElem hlt
      generalize fs[k].1 = n at hfk
      generalize fs[k].2.1 = x at hfk
      generalize fs[k].2.2 = ns at hfk
      obtain ⟨c0, c1, hl⟩ := HH.out k n x ns hfk
      obtain ⟨q, d, rfl⟩ := hl.of_len
      have HK := hidden hfk
      have i4 : (k : Int) < (fs.length : Int) := by omega
      rw [Nat.mul_comm] at c0 c1
      have hgg : g < w.heap.size := World.block_lt_of_cell? _ _ c0
      clear hfk hl
      by_cases hn1 : n.size ≤ 131072
      · have j1 : ¬ (131072 : Int) < (n.size : Int) := by omega
        by_cases hn2 : ns.length ≤ 65536
        · have j2 : ¬ (65536 : Int) < (ns.length : Int) := by omega
          go_wp2
          go_roundw
          case rel => exact ⟨k + 1, by omega, by go_num, trivial, HB.out.next HK.out hn1 hn2⟩
          case measure => simp [intOf]; omega
        · have j2 : (65536 : Int) < (ns.length : Int) := by omega
          go_wp2
          go_ret
          exact ⟨rfl, World.keptBut_refl _ _⟩
      · have j1 : (131072 : Int) < (n.size : Int) := by omega
        go_wp2
        go_ret
        exact ⟨rfl, World.keptBut_refl _ _⟩
    · obtain rfl : k = fs.length := by omega
      obtain ⟨cs, hcs, hmk⟩ := make_fs w fs.length h3
      go_wp2
      clear hmk
      go_loopw [13] (fun i wr => ∃ k : Nat, k ≤ fs.length ∧ i = .int .i64 k ∧ Inv2 w fs k wr) (fun i _ => fs.length - (intOf i).toNat)
      case atStart => exact ⟨0, Nat.zero_le _, rfl, inv2_start w fs cs hcs⟩
      case round =>
        obtain ⟨k, hk, rfl, hin⟩ := hrel
        by_cases hlt : k < fs.length
        · obtain rfl := HF.out (by omega)
          have hfk : fs[k]? = some (fs[k].1, fs[k].2.1, fs[k].2.2) := List.getElem?_eq_getElem hlt
          generalize fs[k].1 = n at hfk
          generalize fs[k].2.1 = x at hfk
          generalize fs[k].2.2 = ns at hfk
          obtain ⟨hn1, hn2⟩ := HB.out k n x ns hlt hfk
          obtain ⟨c0, c1, hl⟩ := (HH.out.old hin.kept) k n x ns hfk
          obtain ⟨q, d, rfl⟩ := hl.of_len
          have HK := hidden hfk
          have HI := hidden hin
          have i4 : (k : Int) < (fs.length : Int) := by omega
          rw [Nat.mul_comm] at c0 c1
          rename World => wr
          have hgg : g < wr.heap.size := World.block_lt_of_cell? _ _ c0
          clear hfk hin
          go_wp2
          go_region_law (refine step_row rfl (.const (.slice none 0 0)) (.tmp 73) 37 rfl (.slice none 0 0) [] rfl (row_nil _) (.slice q ns.length d) ns.length ns (by simp [Act.eval]) (by exact (hl.old (kept_drew wr)).src) (by simp; omega) ?_; intro v1 w1 hr1 hp1; obtain ⟨p1, e1, rfl⟩ := hr1.lies.of_len; obtain ⟨u0, u1, r0, r1, r2, r3, r4⟩ := inv2_room HI.out hlt (Put.ahead (kept_drew wr) hp1); have c9 := old_cell (Put.ahead (kept_drew wr) hp1) c0)
          all_goals
            go_wp2
            go_roundw
            case rel => exact ⟨k + 1, by omega, by go_num, inv2_next HI.out hlt HK.out hr1 (Put.ahead (kept_drew wr) hp1)⟩
            case measure => simp [intOf]; omega
        · obtain rfl : k = fs.length := by omega
          rename World => wr
          have hd2 := HD.out.old hin.kept
          have HI := hidden hin
          clear hin
          go_wp2_with (first
            | (at_builtin; refine wpList_row rfl (.const (.slice none 0 0)) (.tmp 77) 37 rfl (.slice none 0 0) [] rfl (row_nil _) (.slice p zs.length c) zs.length zs rfl hd2.src (by simp; omega) ?_; intro v1 w1 hr1 hp1; clear hd2)
            | (go_at_call 13; refine (req_copies HI.out hr1 hp1 HB.out h3 h1 h2 ha hbb).mono ?_; rintro e w2 ⟨v2, rfl, hr2, hp2⟩; obtain ⟨hk2, hd3, hD, hG⟩ := got_facts HI.out HD.out hr1 hp1 hr2 hp2; clear hr1 hp1 hr2 hp2)
            | (at_builtin; refine wpList_row rfl (.const (.slice none 0 0)) (.tmp 85) 37 rfl (.slice none 0 0) [] rfl (row_nil _) (.slice p zs.length c) zs.length zs rfl hd3.src (by simp; omega) ?_; intro v3 w3 hr3 hp3)
            | (go_at_call 14; refine (zhead_any hr3 _ oper a b (by omega) (by omega) (by simp only [List.length_append, List.length_nil]; omega) ha hbb).mono ?_; rintro e w4 ⟨v4, rfl, hr4, hp4⟩))
          have hs0 := want_start hr3 hp3 hr4 hp4
          clear hr3 hp3 hr4 hp4
          have HK2 := hidden hk2
          clear hk2 HI hcs
          go_loopw [16, 17] (fun u i wr => ∃ k : Nat, k ≤ fs.length ∧ i = .int .i64 k ∧ Sofar w2 (.slice none 0 0) [] (zs ++ (headList fs.length oper a b ++ fieldsList (fs.take k))) wr u) (fun _ i _ => fs.length - (intOf i).toNat)
          case atStart => exact ⟨0, Nat.zero_le _, rfl, by simpa only [fieldsList, List.take_zero, List.flatMap_nil, List.append_nil] using hs0⟩
          case round =>
            clear hs0
            obtain ⟨k, hk, rfl, hs⟩ := hrel
            rename World => wx
            have hl1 := headList_len fs.length oper a b
            have hl2 := brief_len HB.out k hk
            by_cases hlt : k < fs.length
            · obtain rfl := HF.out (by omega)
              have hfk : fs[k]? = some (fs[k].1, fs[k].2.1, fs[k].2.2) := List.getElem?_eq_getElem hlt
              generalize fs[k].1 = n at hfk
              generalize fs[k].2.1 = x at hfk
              generalize fs[k].2.2 = ns at hfk
              obtain ⟨hn1, hn2⟩ := HB.out k n x ns hlt hfk
              obtain ⟨c0, c1, hl⟩ := (HH.out.old (kept_trans HK2.out hs.2.nil)) k n x ns hfk
              obtain ⟨q, d, rfl⟩ := hl.of_len
              have HK := hidden hfk
              have HN := hidden (fieldsList_next hfk)
              have hln := encStr_len n
              have i4 : (k : Int) < (fs.length : Int) := by omega
              rw [Nat.mul_comm] at c0 c1
              have hgg : g < wx.heap.size := World.block_lt_of_cell? _ _ c0
              clear hfk hl c1
              go_wp2_with (first
                | (go_at_call 15; refine (zstr_any hs.1 _ (by simp only [List.length_append, List.length_nil]; omega)).mono ?_; rintro e w5 ⟨v5, rfl, hr5, hp5⟩; obtain ⟨hs2, c2, hl2', hg2⟩ := want_mid hs hr5 hp5 HH.out HK2.out HK.out; clear hs hr5 hp5 c0 hgg)
                | (at_builtin; refine wpList_row rfl (.tmp 107) (.tmp 112) 37 rfl _ _ rfl hs2.1 _ ns.length ns rfl hl2'.src (by simp only [List.length_append, List.length_nil]; omega) ?_; intro v6 w6 hr6 hp6))
              go_roundw
              case rel => exact ⟨k + 1, by omega, by go_num, by rw [HN.out]; simpa only [List.append_assoc] using hs2.more hr6 hp6⟩
              case measure => simp [intOf]; omega
            · obtain rfl : k = fs.length := by omega
              obtain ⟨hW, hd4, hD4, hG4, hk4⟩ := want_end hs HK2.out hd3 hD hG
              clear hs hd3 hD hG hl1 hl2
              go_wp2_with (go_at_call 16; refine (equal_any (by assumption) (by assumption)).mono ?_; rintro e w6 ⟨rfl, rfl⟩)
              go_ret
              exact ⟨rfl, hk4⟩

end Go.Proofs.Ybulkblam
