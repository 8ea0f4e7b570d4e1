import Derived.Test.YbulkbkxgScript
import Derived.Deep.Light
import Derived.Lib.Builder
namespace Go.Proofs.Ybulkbkxg
open Go.RowKit

theorem Yba.info24 : (Yba.prog.info? 24).map (fun i => (i.zero, i.size, i.bytes)) = some (some (.pointer none), 1, 8) := by kernel_rfl
theorem Yba.info3 : (Yba.prog.info? 3).map (fun i => (i.zero, i.size, i.bytes)) = some (some (.int .i64 0), 1, 8) := by kernel_rfl

theorem Yba.info31 : ∃ j, Yba.prog.info? 31 = some j := by
  cases h : Yba.prog.info? 31 with
  | some j => exact ⟨j, rfl⟩
  | none => exact absurd (show (Yba.prog.info? 31).isSome = true from by kernel_rfl) (by rw [h]; decide)

/-- A pointer is not unlike itself. -/
theorem neq_same (p : Option Addr) (w : World) : (binOp .neq 24 (.pointer p) (.pointer p)).run Yba.prog w = .ok (.bool false) w := by
  cases p with
  | none => rw [run_neq_pointer_nil w 24 none (by simp [Program.pointee, Yba.underlying24])]; rfl
  | some a => obtain ⟨j, hj⟩ := Yba.info31; exact Lib.run_neq_ptr_same w a Yba.underlying24 hj

set_option maxHeartbeats 4000000 in
set_option maxRecDepth 100000 in
theorem script_walk (ao : Option Addr) (n cap : Nat) (Z : Nat → Int) (Y : Nat → List Int) (w : World) (hn : n ≤ 1024)
    (hst : ∀ k, k < n → StepAt w.heap.size w ao k (Z k) (Y k)) :
    Calls Yba.prog 4 #[.slice ao n cap] w fun e w' => e = .returned (.bool true) ∧ Below w.heap.size w w' := by
  have hle : ¬ (1024 : Int) < (n : Int) := by omega
  go_enter Yba.func4, Yba.ntmps4
  go_wp2
  go_loopw [4, 23] (fun _ i wr => ∃ k : Nat, k ≤ n ∧ i = .int .i64 k ∧ Below w.heap.size w wr ∧ ∀ j, j < k → (Y j).length ≤ 1024)
    (fun _ i _ => n - (intOf i).toNat)
  case atStart => exact ⟨0, Nat.zero_le _, rfl, Below.refl _ _, fun j hj => absurd hj (Nat.not_lt_zero _)⟩
  case round =>
    obtain ⟨k, hk, rfl, hbel, hlens⟩ := hrel
    have HL := hlens
    clear hlens
    by_cases hlt : k < n
    · obtain ⟨b, off, a, c, rfl, hb, hc0, hc1, _⟩ := hst k hlt
      have d0 := (hbel.cell (p := ⟨b, off + k * 2, none⟩) hb).trans hc0
      have d1 := (hbel.cell (p := ⟨b, off + k * 2 + 1, none⟩) hb).trans hc1
      have HY : Hid (∀ j, j < k → (Y j).length ≤ 1024) := HL
      clear hst hc0 hc1 HL
      by_cases hY : (Y k).length ≤ 1024
      · have hY' : ¬ (1024 : Int) < ((Y k).length : Int) := by omega
        go_wp2
        go_roundw
        case rel => exact ⟨k + 1, by omega, by go_num, hbel.alloc hbel.size _, fun j hj => by
          rcases Nat.lt_succ_iff_lt_or_eq.1 hj with h | rfl
          · exact HY.out j h
          · exact hY⟩
        case measure => simp [intOf]; omega
      · have hY' : (1024 : Int) < ((Y k).length : Int) := by omega
        go_wp2
        go_ret
        exact ⟨rfl, hbel.alloc hbel.size _⟩
    · obtain rfl : k = n := by omega
      have HY : Hid (∀ j, j < k → (Y j).length ≤ 1024) := HL
      clear HL
      have HST : Hid (∀ j, j < k → StepAt w.heap.size w ao j (Z j) (Y j)) := hst
      clear hst
      go_wp2
      rename World => w0
      obtain ⟨i24, hi24, hz0, hz1, hz2⟩ := info_parts Yba.info24
      obtain ⟨i3, hi3, hy0, hy1, hy2⟩ := info_parts Yba.info3
      go_loopw [7, 8, 45] (fun vS vO i wx => ∃ j : Nat, j ≤ k ∧ i = .int .i64 j ∧ Inv w w0.heap.size wx vS vO (modelTo Z Y j))
        (fun _ _ i _ => k - (intOf i).toNat)
      case atStart => exact ⟨0, Nat.zero_le _, rfl, inv_start hbel _ _ _ _⟩
      case round =>
        obtain ⟨j, hj, rfl, hinv⟩ := hrel
        obtain ⟨aS, cS, rfl⟩ := owns_shape hinv.starts
        obtain ⟨aO, cO, rfl⟩ := owns_shape hinv.owners
        have hml := modelTo_length Z Y j
        by_cases hlt : j < k
        · obtain ⟨b, off, a, c, rfl, hb, hc0, hc1, hc2⟩ := (HST.out j hlt).later hinv.below
          have hY := HY.out j hlt
          have HN : Hid (modelTo Z Y (j + 1) = markL (Z j) (ownIdx (Y j)) (modelTo Z Y j)) := rfl
          generalize modelTo Z Y j = M at *
          generalize Z j = s at *
          generalize Y j = ys at *
          clear HST HY
          go_wp2_with (at_make; refine wpList_make_own _ rfl _ _ 28 rfl (wr.heap.size + 1) 24 i24 (.pointer none) 1 Yba.underlying28 hi24 hz0 hz1 _ _ _ ys.length rfl rfl (by omega) (by rw [hz2]; omega) (by unfold maxLen; omega) (by simp) ?_; intro wm hownm hgrowm; have hbx := two_cell1 (box_later (kept_of_none hgrowm)))
          have hkm := kept_of_none hgrowm
          clear hgrowm hbx
          go_loopw [11, 12, 14, 56] (fun vop ow _ i wi => ∃ q : Nat, q ≤ ys.length ∧ i = .int .i64 q ∧ ow = .int .i64 (ownIdx (ys.take q)) ∧ wi.ownsRow (wr.heap.size + 1) 24 1 vop q ((ys.take q).map fun o => .pointer (ownA w0.heap.size (o % 5 - 1)))
              ∧ Kept (fun _ => False) (wr.alloc (.cells #[.int .i64 s, .slice a ys.length c] 48)) wi)
            (fun _ _ _ i _ => ys.length - (intOf i).toNat)
          case atStart => exact ⟨0, Nat.zero_le _, rfl, rfl, by simpa using hownm, hkm⟩
          case round =>
            rename World => wi
            obtain ⟨q, hq, rfl, rfl, hown, hk⟩ := hrel
            have hkw : Kept (fun _ => False) wr wi := ((Kept.refl _ wr).alloc _).trans hk
            have hinv2 := hinv.kept hkw
            by_cases hql : q < ys.length
            · obtain ⟨b', o', rfl, hb', hcy0, hq0, hq1⟩ := hc2 q hql
              have hcy : wi.cell? ⟨b', o' + q, none⟩ = some (.int .u8 ys[q]) := hkw.cell hcy0 (fun e => e)
              have hpool := hinv2.pool
              have HT : Hid (ownIdx (ys.take (q + 1)) = ys[q] % 5 - 1 ∧ (ys.take (q + 1)).map (fun o => Value.pointer (ownA w0.heap.size (o % 5 - 1))) = (ys.take q).map (fun o => .pointer (ownA w0.heap.size (o % 5 - 1))) ++ [.pointer (ownA w0.heap.size (ys[q] % 5 - 1))]) :=
                ⟨ownIdx_take ys q hql, by rw [List.take_succ_eq_append_getElem hql, List.map_append]; rfl⟩
              clear hc2 hc0 hc1 hcy0 hinv hinv2 hownm hkm HN
              generalize ys[q] = y at *
              go_wp2_with (first
                | (go_at_call 5; refine (pick_any _ w0.heap.size _ hq0 hq1 _ hpool).mono ?_; rintro e w' ⟨rfl, rfl⟩)
                | (at_builtin; refine wpList_append_own _ rfl (.tmp 60) (.tmp 64) 28 rfl (wr.heap.size + 1) 24 i24 (.pointer none) 1 8 Yba.underlying28 hi24 hz0 hz1 hz2 rfl (by decide) _ q _ rfl (hown.alloc _) ⟨wi.heap.size, 0, none⟩ 1 1 [.pointer (ownA w0.heap.size (y % 5 - 1))] rfl rfl (cell_one_new _ _ _) (by intro u hu; simp at hu; subst hu; rfl) (by unfold maxLen; omega) (by omega) (by have := hk.size; simp at this; simp; omega) ?_; intro v' w1 hown1 hgrow1 _)
                | (go_at_call 10; refine (idx_any _ hq0 hq1 _).mono ?_; rintro e w' ⟨rfl, rfl⟩))
              go_roundw
              case rel =>
                go_light
                refine ⟨q + 1, by omega, by go_num, by rw [HT.out.1], by rw [HT.out.2]; exact hown1, (hk.alloc _).grown hgrow1 (fun g hg e => ?_)⟩
                have := (hown.lt g e).1
                simp at hg
                omega
              case measure => simp [intOf]; omega
            · obtain rfl : q = ys.length := by omega
              rw [List.take_length] at hown
              obtain ⟨ap, cp, rfl⟩ := owns_shape hown
              have hlast := lastIs_of_owns hown
              have hbx := box_later hk
              obtain ⟨vsp, s1, s2⟩ := hinv2.set
              have hsz := hinv.size
              have hib := ownIdx_bd ys
              have HTL : Hid (ys.take ys.length = ys) := List.take_length
              clear hc2 hc0 hc1 hownm hkm hql hown hinv hk
              have s2' : wi.ownsRow (w0.heap.size + 6) 40 2 vsp (spansOf w0.heap.size M).length (flat (spansOf w0.heap.size M)) := by simpa [spansOf] using s2
              have hml2 : (spansOf w0.heap.size M).length ≤ 4096 := by simp [spansOf]; omega
              have HM := hidden (mark_any (w0.heap.size + 5) (w0.heap.size + 6) s ap ys.length cp (ownA w0.heap.size (ownIdx ys)) (.slice none 0 0) vsp (spansOf w0.heap.size M) wi s1 (by omega) hinv2.size s2' hml2 (by omega) hlast)
              have hb0 := two_cell0 hbx
              have HBX := hidden hbx
              have hS' : w0.heap.size + 5 < wr.heap.size := by omega
              clear hbx s1 hml2 hlast
              rcases mark_cases s M with hne | ⟨M', p, hMc⟩
              · have HNE := hidden hne
                go_wp2_with (go_at_call 8; refine HM.out.mono ?_; rintro e w2 ⟨rfl, hmk⟩; have hmid := hinv2.marked s2 hmk; have hbx2 := box_marked HBX.out hS' s2' hmk; have hb2 := two_cell0 hbx2)
                clear HM HBX hinv2 s2 s2' hmk hbx2 hb0 hq hib hsz hS' hkw
                have HNM : Hid (∃ m, M.length = m) := ⟨_, rfl⟩
                rcases hne with h0 | ⟨M', t, p, hMc, hts⟩
                focus
                  obtain ⟨m, hm⟩ := HNM.out
                  have hd : decide ((0 : Int) < (m : Int)) = false := by rw [← hm, h0]; rfl
                  have hd2 : decide (0 < m) = false := by rw [← hm, h0]; rfl
                  have HMm := hidden hm
                  rw [hm] at hmid ⊢
                  clear h0 hm
                  go_quiet (fail)
                rotate_left
                focus
                  obtain ⟨g, rfl, hcS, hSc, hSm⟩ := hmid.lastStart hMc
                  obtain ⟨m, hm⟩ := HNM.out
                  have hd0 : 0 < m := by rw [← hm, hMc]; simp
                  have hd : decide ((0 : Int) < (m : Int)) = true := by simpa using hd0
                  have hd2 : decide (0 < m) = true := by simpa using hd0
                  have hd1 : (m : Int) - 1 < (m : Int) := by omega
                  have htb : (t == s) = false := by simpa using hts
                  have HMm := hidden hm
                  rw [hm] at hmid hcS hSc ⊢
                  clear hMc hts hm
                  unfold maxLen at hSm
                  go_quiet (fail)
                all_goals
                  have hmid3 := hmid.kept (kept_drewN w2 nq)
                  have hb3 : (w2.drewN nq).cell? ⟨wr.heap.size, 0, none⟩ = some (.int .i64 s) := hb2
                  clear hmid hb2 hd hd2
                  generalize w2.drewN nq = w3 at hmid3 hb3 ⊢
                  have hsS := hmid3.starts
                  have hsz3 := hmid3.size
                  have hmj : m ≤ 1024 := by rw [← HMm.out]; omega
                  rw [HMm.out] at hsS
                  go_wp2_with (first
                    | (at_builtin; refine wpList_append_own_at _ rfl (.tmp 93) (.tmp 96) 49 rfl (w0.heap.size + 6) 3 i3 (.int .i64 0) 1 8 Yba.underlying49 hi3 hy0 hy1 hy2 rfl (by decide) _ m _ rfl (hsS.alloc _) ⟨w3.heap.size, 0, none⟩ 1 1 [.int .i64 s] rfl rfl (cell_one_new _ _ _) (ints_oneCell .i64 [s]) (by unfold maxLen; omega) (by omega) (by simp; omega) ?_; intro vS' w4 hS4 hg4 _ hl4; have hO4 := hmid3.owners1 hg4; rw [HMm.out] at hO4; have hsz4 : w3.heap.size + 1 ≤ w4.heap.size := (by simpa using hg4.size))
                    | (at_builtin; refine wpList_append_own_at _ rfl (.tmp 98) (.tmp 100) 49 rfl (w0.heap.size + 6) 3 i3 (.int .i64 0) 1 8 Yba.underlying49 hi3 hy0 hy1 hy2 rfl (by decide) _ m _ rfl (hO4.alloc _) ⟨w4.heap.size, 0, none⟩ 1 1 [.int .i64 (ownIdx ys)] rfl rfl (cell_one_new _ _ _) (ints_oneCell .i64 [ownIdx ys]) (by unfold maxLen; omega) (by omega) (by simp; omega) ?_; intro vO' w5 hO5 hg5 _ hl5))
                  have R : Inv w w0.heap.size w5 vS' vO' (markL s (ownIdx ys) M) := hmid3.grown HNE.out (by rw [HMm.out]; exact hS4) hg4 hl4 (by rw [HMm.out]; exact hO5) hg5 hl5
                  rw [← HN.out] at R
                  clear hS4 hg4 hl4 hO4 hO5 hg5 hl5 hmid3 hsS
                  go_roundw
                  case rel => exact ⟨j + 1, by omega, by go_num, R⟩
                  case measure => simp [intOf]; omega
              · have hmk2 := hMc
                subst hMc
                obtain ⟨gS, rfl, hS1, hS2⟩ := slice_some hinv2.starts (by simp)
                obtain ⟨gO, rfl, hO1, hO2⟩ := slice_some hinv2.owners (by simp)
                simp only [List.length_append, List.length_singleton] at hS1 hO1 hml
                unfold maxLen at hS2 hO2
                have hlM : (M' ++ [(s, p)]).length = M'.length + 1 := by simp
                rw [hlM]
                rw [hlM] at hinv2 s2
                clear hmk2
                go_wp2_with (go_at_call 8; refine HM.out.mono ?_; rintro e w2 ⟨rfl, hmk⟩; have hmid := hinv2.marked (by rw [hlM]; exact s2) hmk; have hbx2 := box_marked HBX.out hS' s2' hmk; have hb2 := two_cell0 hbx2)
                clear HM HBX hinv2 s2 s2' hmk hbx2 hb0 hq hib hsz hS' hkw
                have hsS := hmid.starts
                have hsO := hmid.owners
                simp only [hlM] at hsS hsO
                have hcS : w2.cell? ⟨gS, M'.length, none⟩ = some (.int .i64 s) := by rw [hsS.cellAt _ (by omega)]; simp
                have hcO : w2.cell? ⟨gO, M'.length, none⟩ = some (.int .i64 p) := by rw [hsO.cellAt _ (by omega)]; simp
                have hfO := hsO.frozenAt M'.length
                have HI : Hid (∀ n, Inv w w0.heap.size ((w2.drewN n).setCell ⟨gO, M'.length, none⟩ (.int .i64 (ownIdx ys))) (.slice (some ⟨gS, 0, none⟩) (M'.length + 1) cS) (.slice (some ⟨gO, 0, none⟩) (M'.length + 1) cO) (modelTo Z Y (j + 1))) := by
                  intro n
                  rw [HN.out]
                  exact (hmid.kept (kept_drewN w2 n)).stored
                clear hsS hsO hmid HN hlM
                generalize M'.length = l at *
                have hd : decide ((0 : Int) < (l : Int) + 1) = true := by simp
                have hd1 : (l : Int) < (l : Int) + 1 := by omega
                have hst : (s == s) = true := by simp
                go_quiet (fail)
                go_wp2
                go_roundw
                case rel => exact ⟨j + 1, by omega, by go_num, HI.out nq⟩
                case measure => simp [intOf]; omega
        · obtain rfl : j = k := by omega
          obtain ⟨av, cv, hcs, _, hread⟩ := hinv.reads
          have hpool : Pool (w0.heap.size + 1 + 1 + 1 + 1) w0.heap.size wr := hinv.pool
          have hbd := modelTo_bd Z Y j
          have hbw := hinv.below
          have HR := hidden hread
          have HBD := hidden hbd
          have HP := hidden hpool
          clear hread hbd hpool hinv HST HY hi24 hz0 hz1 hz2 hi3 hy0 hy1 hy2
          generalize modelTo Z Y j = M at *
          go_wp2
          rename World => w9
          go_loopw [16, 17] (fun i _ wi => ∃ (q : Nat) (n : Nat), q ≤ M.length ∧ i = .int .i64 q ∧ wi = w9.drewN n)
            (fun i _ _ => M.length - (intOf i).toNat)
          case atStart => exact ⟨0, 0, Nat.zero_le _, rfl, rfl⟩
          case round =>
            obtain ⟨q, nn, hq, rfl, rfl⟩ := hrel
            by_cases hql : q < M.length
            · obtain ⟨gS, gO, gV, rfl, rfl, rfl, hS, hO, hV0, hV1⟩ := HR.out q hql
              have ho := HBD.out _ (List.getElem_mem hql)
              generalize M[q].1 = s at *
              generalize M[q].2 = o at *
              by_cases ho0 : 0 ≤ o
              · have hp : w9.cell? ⟨w0.heap.size + 1 + 1 + 1 + 1, o.toNat, none⟩ = some (.pointer (some ⟨w0.heap.size + o.toNat, 0, none⟩)) := HP.out _ (by omega)
                have hown : ownA w0.heap.size o = some ⟨w0.heap.size + o.toNat, 0, none⟩ := by rw [ownA, if_neg (by omega)]
                rw [hown] at hV1
                clear hown HR HBD HP
                have hss : (s != s) = false := by simp
                have hne := fun wx => neq_same (some ⟨w0.heap.size + o.toNat, 0, none⟩) wx
                go_wp2
                go_quiet (fail)
                go_wp2
                go_roundw
                case rel => exact ⟨q + 1, nn + nq, by omega, by go_num, rfl⟩
                case measure => simp [intOf]; omega
              · have hown : ownA w0.heap.size o = none := by rw [ownA, if_pos (by omega)]
                rw [hown] at hV1
                clear hown HR HBD HP
                have hss : (s != s) = false := by simp
                go_wp2
                go_quiet (fail)
                go_wp2
                go_roundw
                case rel => exact ⟨q + 1, nn + nq, by omega, by go_num, rfl⟩
                case measure => simp [intOf]; omega
            · clear HR HBD HP
              go_wp2
              go_ret
              exact ⟨rfl, hbw.trans ⟨rfl, rfl, rfl, Nat.le_refl _, fun _ _ => rfl⟩⟩

end Go.Proofs.Ybulkbkxg
