import Derived.Test.YbulkblegPlain
namespace Go.Proofs.Ybulkbleg
open Go.RowKit Go.Maps Go.WideMaps

theorem zeroE (w : World) : (zeroValue 26).run Yba.prog w = .ok (.agg #[.string ByteArray.empty, .string ByteArray.empty]) w := by kernel_rfl

theorem str_same {p q : ByteArray} (h : p = q) : (p.toList == q.toList) = true := by rw [h]; simp
theorem str_apart {p q : ByteArray} (h : p ≠ q) : (p.toList == q.toList) = false := by
  rw [beq_eq_false_iff_ne]
  intro e
  apply h
  have hb : (p == q) = true := by rw [beq_toListBytes]; simp [e]
  obtain ⟨⟨x⟩⟩ := p
  obtain ⟨⟨y⟩⟩ := q
  have hb' : ((⟨x⟩ : Array UInt8) == ⟨y⟩) = true := hb
  have hxy : x = y := by simpa using hb'
  rw [hxy]

theorem kept_drewN (w : World) (n : Nat) : Kept (fun _ => False) w (w.drewN n) := ⟨rfl, rfl, rfl, Nat.le_refl _, fun _ _ _ => rfl⟩

/-- An entry is like itself. -/
theorem entry_equalIn (d : Nat) (a b : ByteArray) (w : World) : (Op.equalIn (d + 1 + 1) 26 (.agg #[.string a, .string b]) (.agg #[.string a, .string b])).run Yba.prog w = .ok true w := by
  have ha := run_equalIn_string (P := Yba.prog) w d 9 a a Yba.underlying9
  have hb := run_equalIn_string (P := Yba.prog) w d 9 b b Yba.underlying9
  rw [run_equalIn_agg w (d + 1) 26 _ _ (by simp [Program.fieldsOf, Yba.underlying26]) (by kernel_rfl)]
  generalize d + 1 = d' at *
  have p0 : (part 9 #[.string a, .string b] 0).run Yba.prog w = .ok (.string a) w := by kernel_rfl
  have p1 : (part 9 #[.string a, .string b] 1).run Yba.prog w = .ok (.string b) w := by kernel_rfl
  simp [Program.fieldsOf, Yba.underlying26, Op.eqFields, p0, p1, ha, hb]
theorem entry_equal (a b : ByteArray) (w : World) : (Op.equalIn 10000 26 (.agg #[.string a, .string b]) (.agg #[.string a, .string b])).run Yba.prog w = .ok true w := entry_equalIn 9998 a b w

set_option maxHeartbeats 4000000 in
set_option maxRecDepth 100000 in
theorem wins_walk (ao : Option Addr) (n cap : Nat) (P : Nat → ByteArray) (E : Nat → ByteArray × ByteArray) (w : World) (hn : n ≤ 1024) (hed : ∀ k, k < n → EditAt w.heap.size w ao k (P k) (E k)) :
    Calls Yba.prog 3 #[.slice ao n cap] w fun e w' => e = .returned (.bool true) ∧ Below w.heap.size w w' := by
  have hle : ¬ (1024 : Int) < (n : Int) := by omega
  have HBP := hidden (byPath_any ao n cap P E w hn hed)
  have HED := hidden hed
  clear hed
  go_enter Yba.func3, Yba.ntmps3
  go_wp2_with (go_at_call 4; refine HBP.out.mono ?_; rintro e w1 ⟨rfl, hown, hbl⟩)
  clear HBP
  go_loopw [4, 18] (fun d i wr => ∃ k : Nat, k ≤ n ∧ i = .int .i64 k ∧ d = .int .i64 (distinctTo P n k) ∧ wr.ownsMap Yba.prog 9 entryElem w.heap.size n (mapTo P E n) ∧ Below w.heap.size w wr)
    (fun _ i _ => n - (intOf i).toNat)
  case atStart => exact ⟨0, Nat.zero_le _, rfl, rfl, hown, hbl⟩
  case round =>
    clear hown hbl
    obtain ⟨k, hk, rfl, rfl, hown, hbl⟩ := hrel
    have hdl := distinctTo_le P n k
    by_cases hlt : k < n
    · rename World => w2
      go_wp2
      go_loopw [6, 7, 8, 24] (fun l f _ j wx => ∃ q m : Nat, q ≤ n ∧ j = .int .i64 q ∧ l = .int .i64 (lastTo P k q) ∧ f = .bool (firstTo P k q) ∧ wx = w2.drewN m)
        (fun _ _ _ j _ => n - (intOf j).toNat)
      case atStart => exact ⟨0, 0, Nat.zero_le _, rfl, rfl, rfl, rfl⟩
      case round =>
        obtain ⟨q, m, hq, rfl, rfl, rfl, rfl⟩ := hrel
        by_cases hql : q < n
        · obtain ⟨b, off, rfl, hb, hc0, _⟩ := (HED.out q hql).later hbl
          obtain ⟨b', off', hao, hb', hc0', _⟩ := (HED.out k hlt).later hbl
          simp only [Option.some.injEq, Addr.mk.injEq, and_true] at hao
          obtain ⟨rfl, rfl⟩ := hao
          have HL : Hid (lastTo P k (q + 1) = if P q = P k ∧ lastTo P k q < q then q else lastTo P k q) := rfl
          have HF : Hid (firstTo P k (q + 1) = if P q = P k ∧ q < k then false else firstTo P k q) := rfl
          have hlb := lastTo_bd P k n hlt q (by omega)
          have i1 : (q : Int) < (n : Int) := by omega
          have i2 : (k : Int) < (n : Int) := by omega
          generalize lastTo P k q = L at *
          generalize firstTo P k q = F at *
          clear HED hown
          by_cases hpq : P q = P k
          · have hs := str_same hpq
            have HL2 : Hid (lastTo P k (q + 1) = if L < q then q else L) := by
              have e : lastTo P k (q + 1) = _ := HL.out
              exact hidden (by simpa only [hpq, true_and] using e)
            have HF2 : Hid (firstTo P k (q + 1) = if q < k then false else F) := by
              have e : firstTo P k (q + 1) = _ := HF.out
              exact hidden (by simpa only [hpq, true_and] using e)
            clear hpq HL HF
            generalize P q = p1 at *
            generalize P k = p2 at *
            go_wp2
            go_quiet (fail)
            by_cases h1 : L < q
            all_goals by_cases h2 : q < k
            all_goals go_wp2
            all_goals
              go_roundw
              case rel => exact ⟨q + 1, m + nq, by omega, by go_num, by rw [HL2.out]; first | rw [if_pos h1] | rw [if_neg h1], by rw [HF2.out]; first | rw [if_pos h2] | rw [if_neg h2], rfl⟩
              case measure => simp [intOf]; omega
          · have hs := str_apart hpq
            have HPQ := hidden hpq
            clear hpq
            generalize P q = p1 at *
            generalize P k = p2 at *
            go_wp2
            go_quiet (fail)
            go_wp2
            go_roundw
            case rel => exact ⟨q + 1, m + nq, by omega, by go_num, by rw [HL.out, if_neg (fun e => HPQ.out e.1)], by rw [HF.out, if_neg (fun e => HPQ.out e.1)], rfl⟩
            case measure => simp [intOf]; omega
        · obtain rfl : q = n := by omega
          have hbl3 : Below w.heap.size w (w2.drewN m) := hbl.trans ⟨rfl, rfl, rfl, Nat.le_refl _, fun _ _ => rfl⟩
          have hown3 : (w2.drewN m).ownsMap Yba.prog 9 entryElem w.heap.size q (mapTo P E q) := hown
          generalize w2.drewN m = w3 at *
          clear hown hbl
          have hls := lastTo_spec P k q
          have hlb := lastTo_bd P k q hlt q (Nat.le_refl _)
          have hfd : Hid (distinctTo P q (k + 1) = distinctTo P q k + if firstTo P k q = true then 1 else 0) := rfl
          obtain ⟨b, off, rfl, hb, hc0, hc1, hc2, hsz⟩ := (HED.out k hlt).later hbl3
          obtain ⟨b', off', hao, hb', hd0, hd1, hd2, hsz'⟩ := (HED.out (lastTo P k q) hlb).later hbl3
          simp only [Option.some.injEq, Addr.mk.injEq, and_true] at hao
          obtain ⟨rfl, rfl⟩ := hao
          have hkey : keyOf Yba.prog 9 (.string (P k)) = some (keyAt P k) := keyOf_string_mk Yba.underlying9 hsz
          have hhas : Maps.has (mapTo P E q) (keyAt P k) = true := (mapTo_has P E k q).2 ⟨k, hlt, rfl⟩
          have hat := mapTo_at P E (entryD (ByteArray.empty, ByteArray.empty)) k (lastTo P k q) hls.1 q hlb hls.2.2
          have HAT := hidden hat
          have hq1 : (lastTo P k q : Int) < (q : Int) := by omega
          have hbw : b < w3.heap.size := World.block_lt_of_cell? w3 _ hc0
          have hk1 : (k : Int) < (q : Int) := by omega
          clear hls hat HED hsz hsz' hd0
          generalize lastTo P k q = L at *
          obtain ⟨D, hD⟩ : ∃ D, mapTo P E q = D := ⟨_, rfl⟩
          have HD := hidden hD
          rw [hD] at hown3 hhas HAT
          clear hD
          generalize keyAt P k = kl at *
          generalize P k = p at *
          generalize E L = eL at *
          obtain ⟨ea, eb⟩ := eL
          have hee := fun wx => entry_equal ea eb wx
          cases hF : firstTo P k q
          all_goals
            have HFF := hidden hF
            clear hF
            go_wp2_with (at_lookup; refine wpList_lookup_own_ok _ rfl _ _ 23 rfl 9 26 law Yba.underlying23 entryElem (zeroE _) (entryD (ByteArray.empty, ByteArray.empty)) [] rfl w.heap.size q D rfl hown3 _ _ rfl hkey ?_; intro v ps hv; rw [HAT.out] at hv; have hv2 := entry_inv hv; subst hv2; rw [hhas])
            clear hkey hhas HAT hv hc0 hc1 hc2
            go_quiet (fail)
            go_wp2
            go_roundw
            case rel => exact ⟨k + 1, by omega, by go_num, by rw [hfd.out, HFF.out]; go_num, by rw [HD.out]; exact hown3.alloc _, (hbl3.alloc hbl3.size _).trans ⟨rfl, rfl, rfl, Nat.le_refl _, fun _ _ => rfl⟩⟩
            case measure => simp [intOf]; omega
    · obtain rfl : k = n := by omega
      have hsz := mapTo_size P E k k (Nat.le_refl _)
      have HSZ := hidden hsz
      clear hsz HED
      go_wp2_with (at_len; refine wpList_len_own _ rfl _ 23 rfl 9 26 Yba.underlying23 entryElem w.heap.size k _ rfl hown ?_; rw [HSZ.out])
      go_ret
      exact ⟨by simp, hbl⟩

end Go.Proofs.Ybulkbleg
