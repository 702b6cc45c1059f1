import Derived.Test.Qxb6601954aAfter
namespace Go.Proofs.Qxb6601954a
open Go.ChangeShapes Go.WideShapes Go.ChangeAt Go.RowKit

/-- what the law's model answers -/
def IMEnd (zs : List Int) (q : Nat) (e : Ending) : Prop := e = .returned (.tuple #[.int .i64 (valAt zs q), .bool (okAt zs q), .int .i64 (posAt zs q)])
theorem im_no {zs : List Int} {q : Nat} (hok : okAt zs q = false) : IMEnd zs q (.returned (.tuple #[.int .i64 0, .bool false, .int .i64 q])) := by
  obtain ⟨h1, h2⟩ := val_no zs q hok
  unfold IMEnd
  rw [h1, h2, hok]
theorem im_yes {zs : List Int} {q : Nat} {v p : Int} (hok : okAt zs q = true) (hv : v = (if negAt zs q then - num zs (stAt zs q) else num zs (stAt zs q))) (hp : p = ((stAt zs q + cnt zs (stAt zs q) : Nat) : Int)) :
    IMEnd zs q (.returned (.tuple #[.int .i64 v, .bool true, .int .i64 p])) := by
  obtain ⟨h1, h2⟩ := val_yes zs q hok
  unfold IMEnd
  rw [h1, h2, hok, hv, hp]

set_option maxHeartbeats 3200000 in
theorem im_neg (b off len cap p q : Nat) (zs : List Int) (w : World) (hl : zs.length = len) (hm : len ≤ 8388608) (hcap : len ≤ cap)
    (hc : ∀ j, j < len → w.cell? ⟨b, off + j, none⟩ = some (.int .u8 (zs.getD j 0)))
    (HQ : Hid (skip zs p = q)) (hq : q < len) (hn : zs.getD q 0 = 45) :
    Calls Try.prog 11 #[.slice (some ⟨b, off, none⟩) len cap, .int .i64 p] w fun e w' => IMEnd zs q e ∧ w' = w := by
  have HCC := hid hc
  have HAF : Hid (Calls Try.prog 21 #[.slice (some ⟨b, off, none⟩) len cap, .int .i64 p] w fun e w' => e = .returned (.int .i64 q) ∧ w' = w) := by
    have := after_some b off len cap p zs w hl hm hc
    rw [HQ.out] at this
    exact this
  obtain ⟨hng, hst⟩ := neg_yes zs q (by omega) hn
  have hcx : w.cell? ⟨b, off + q, none⟩ = some (.int .u8 45) := by rw [← hn]; exact hc _ hq
  have HST := hid hst
  have HNG := hid hng
  have hli : (q : Int) < (len : Int) := by omega
  clear hst hng hn hc
  go_enter Try.func11, Try.ntmps11
  go_wp2_with fail
  refine HAF.out.mono ?_
  rintro e w' ⟨rfl, hw⟩
  obtain rfl := hw.symm
  clear HAF
  go_wp2
  go_loop [8] (fun i => ∃ m : Nat, q + 1 ≤ m ∧ m - (q + 1) ≤ cnt zs (q + 1) ∧ m ≤ len ∧ i = .int .i64 m) (fun i => len - (intOf i).toNat)
  case atStart => exact ⟨q + 1, Nat.le_refl _, by omega, by omega, by go_num⟩
  case round =>
    obtain ⟨m, hqm, hcn, hml, rfl⟩ := hrel
    by_cases hdg : m < len ∧ 48 ≤ zs.getD m 0 ∧ zs.getD m 0 ≤ 57
    · obtain ⟨hlt, hd1, hd2⟩ := hdg
      have hcy := HCC.out m hlt
      have hli2 : (m : Int) < (len : Int) := by omega
      have HCM := hid (cnt_more zs (q + 1) m hqm hcn (by omega) ⟨hd1, hd2⟩)
      have hdt : isDig (zs.getD m 0) = true := (isDig_iff _).2 ⟨hd1, hd2⟩
      clear hcx hd1 hd2
      generalize zs.getD m 0 = c at *
      go_wp2_with (go_at_call 13; refine (dig_any _ _).mono ?_; rintro e w' ⟨rfl, rfl⟩; rw [hdt])
      go_round
      case rel => exact ⟨m + 1, by omega, HCM.out, by omega, by go_num⟩
      case measure => simp [intOf]; omega
    · have HC := hid (cnt_is zs (q + 1) m hqm hcn (fun h1 h2 => hdg ⟨by omega, h2⟩))
      have hex : (len ≤ m ∧ decide ((m : Int) < (len : Int)) = false) ∨ (m < len ∧ ∃ c, isDig c = false ∧ w.cell? ⟨b, off + m, none⟩ = some (.int .u8 c)) := by
        by_cases h1 : m < len
        · exact .inr ⟨h1, zs.getD m 0, (isDig_not _).2 (fun h => hdg ⟨h1, h⟩), HCC.out m h1⟩
        · exact .inl ⟨by omega, decide_eq_false (by omega)⟩
      clear hcx hdg
      by_cases hm0 : m ≤ q + 1
      · have hok : Hid (okAt zs q = false) := ok_none zs q (by rw [HST.out, HC.out]; omega)
        rcases hex with ⟨h1, hd1⟩ | ⟨h1, c, hdf, hcz⟩
        · first
          | (exfalso; omega)
          | (go_wp2_with (go_at_call 26; refine HBY.out.mono ?_; rintro e w' ⟨rfl, hw⟩; obtain rfl := hw.symm; rw [hby])
             go_ret3
             exact ⟨im_no hok.out, rfl⟩)
        · go_wp2_with (first | (go_at_call 13; refine (dig_any _ _).mono ?_; rintro e w' ⟨rfl, hw⟩; obtain rfl := hw.symm; rw [hdf]) | (go_at_call 26; refine HBY.out.mono ?_; rintro e w' ⟨rfl, hw⟩; obtain rfl := hw.symm; rw [hby]))
          go_ret3
          exact ⟨im_no hok.out, rfl⟩

      have hsl : q + 1 < len := by omega
      have hcs : w.cell? ⟨b, off + (q + 1), none⟩ = some (.int .u8 (zs.getD (q + 1) 0)) := HCC.out _ hsl
      have HNE : Hid (cnt zs (q + 1) ≠ 0) := by show cnt zs (q + 1) ≠ 0; rw [HC.out]; omega
      have HPO : Hid ((m : Int) = ((stAt zs q + cnt zs (stAt zs q) : Nat) : Int)) := by show (m : Int) = _; rw [HST.out, HC.out]; omega
      have e0 : (((m : Int) - (q + 1) == 0) = false) := beq_eq_false_iff_ne.2 (by omega)
      by_cases hm1 : m ≤ q + 1 + 1
      · have HNV : Hid (num zs (q + 1) ≤ 9223372036854775808) := num_short zs (q + 1) true (by rw [HC.out]; omega)
        have hok : Hid (okAt zs q = true) := ok_yes zs q (by rw [HST.out, HNG.out]; exact HNV.out) (by rw [HST.out]; exact HNE.out) (by rw [HST.out, HC.out]; omega)
        have d1 : decide ((1 : Int) < (m : Int) - (q + 1)) = false := decide_eq_false (by omega)
        have d19 : (((m : Int) - (q + 1) == 19) = false) := beq_eq_false_iff_ne.2 (by omega)
        clear hcs
        rcases hex with ⟨h1, hd1⟩ | ⟨h1, c, hdf, hcz⟩
        · first
          | (exfalso; omega)
          | skip
          go_wp2_with (go_at_call 26; refine HBY.out.mono ?_; rintro e w' ⟨rfl, hw⟩; obtain rfl := hw.symm; rw [hby])
          go_loop [12, 13] (fun v i => ∃ j : Nat, q + 1 ≤ j ∧ j ≤ m ∧ i = .int .i64 j ∧ v = .int .i64 (-vt zs (q + 1) (j - (q + 1)))) (fun _ i => m - (intOf i).toNat)
          case atStart => exact ⟨q + 1, Nat.le_refl _, hqm, by go_num, by simp [vt]⟩
          case round =>
            obtain ⟨j, hsj, hjm, rfl, rfl⟩ := hrel
            have hv0 := vt_nonneg zs (q + 1) (j - (q + 1)) (by have := HC.out; omega)
            by_cases hjlt : j < m
            · have hcj : w.cell? ⟨b, off + j, none⟩ = some (.int .u8 (zs.getD j 0)) := HCC.out j (by omega)
              have hlj : (j : Int) < (len : Int) := by omega
              have hdj : 48 ≤ zs.getD j 0 ∧ zs.getD j 0 ≤ 57 := by have := digs zs (q + 1) (j - (q + 1)) (by have := HC.out; omega); rwa [show q + 1 + (j - (q + 1)) = j by omega] at this
              have hst := vt_step zs (q + 1) j hsj
              have hub : vt zs (q + 1) (j - (q + 1)) * 10 + (zs.getD j 0 - 48) ≤ 9223372036854775808 := by
                rw [← hst]
                exact Int.le_trans (vt_le_num zs (q + 1) (j + 1 - (q + 1)) (by have := HC.out; omega)) HNV.out
              have HVS := hid hst
              clear hst
              generalize zs.getD j 0 = c at *
              generalize vt zs (q + 1) (j - (q + 1)) = n at *
              go_wp2
              go_round
              case rel => exact ⟨j + 1, by omega, by omega, by go_num, congrArg (Value.int .i64) (by rw [HVS.out]; omega)⟩
              case measure => simp [intOf]; omega
            · have hje : j = m := by omega
              subst hje
              go_wp2
              go_ret3
              exact ⟨im_yes hok.out (by rw [HNG.out, if_pos rfl, HST.out, num, HC.out]) HPO.out, rfl⟩
        · go_wp2_with (first | (go_at_call 13; refine (dig_any _ _).mono ?_; rintro e w' ⟨rfl, hw⟩; obtain rfl := hw.symm; rw [hdf]) | (go_at_call 26; refine HBY.out.mono ?_; rintro e w' ⟨rfl, hw⟩; obtain rfl := hw.symm; rw [hby]))
          clear hcz hdf
          go_loop [12, 13] (fun v i => ∃ j : Nat, q + 1 ≤ j ∧ j ≤ m ∧ i = .int .i64 j ∧ v = .int .i64 (-vt zs (q + 1) (j - (q + 1)))) (fun _ i => m - (intOf i).toNat)
          case atStart => exact ⟨q + 1, Nat.le_refl _, hqm, by go_num, by simp [vt]⟩
          case round =>
            obtain ⟨j, hsj, hjm, rfl, rfl⟩ := hrel
            have hv0 := vt_nonneg zs (q + 1) (j - (q + 1)) (by have := HC.out; omega)
            by_cases hjlt : j < m
            · have hcj : w.cell? ⟨b, off + j, none⟩ = some (.int .u8 (zs.getD j 0)) := HCC.out j (by omega)
              have hlj : (j : Int) < (len : Int) := by omega
              have hdj : 48 ≤ zs.getD j 0 ∧ zs.getD j 0 ≤ 57 := by have := digs zs (q + 1) (j - (q + 1)) (by have := HC.out; omega); rwa [show q + 1 + (j - (q + 1)) = j by omega] at this
              have hst := vt_step zs (q + 1) j hsj
              have hub : vt zs (q + 1) (j - (q + 1)) * 10 + (zs.getD j 0 - 48) ≤ 9223372036854775808 := by
                rw [← hst]
                exact Int.le_trans (vt_le_num zs (q + 1) (j + 1 - (q + 1)) (by have := HC.out; omega)) HNV.out
              have HVS := hid hst
              clear hst
              generalize zs.getD j 0 = c at *
              generalize vt zs (q + 1) (j - (q + 1)) = n at *
              go_wp2
              go_round
              case rel => exact ⟨j + 1, by omega, by omega, by go_num, congrArg (Value.int .i64) (by rw [HVS.out]; omega)⟩
              case measure => simp [intOf]; omega
            · have hje : j = m := by omega
              subst hje
              go_wp2
              go_ret3
              exact ⟨im_yes hok.out (by rw [HNG.out, if_pos rfl, HST.out, num, HC.out]) HPO.out, rfl⟩

      have d1 : decide ((1 : Int) < (m : Int) - (q + 1)) = true := decide_eq_true (by omega)
      by_cases h48 : zs.getD (q + 1) 0 = 48
      · have hok : Hid (okAt zs q = false) := ok_zero zs q (by rw [HST.out, HC.out]; omega) (by rw [HST.out]; exact h48)
        rw [h48] at hcs
        clear h48
        rcases hex with ⟨h1, hd1⟩ | ⟨h1, c, hdf, hcz⟩
        · first
          | (exfalso; omega)
          | (go_wp2_with (go_at_call 26; refine HBY.out.mono ?_; rintro e w' ⟨rfl, hw⟩; obtain rfl := hw.symm; rw [hby])
             go_ret3
             exact ⟨im_no hok.out, rfl⟩)
        · go_wp2_with (first | (go_at_call 13; refine (dig_any _ _).mono ?_; rintro e w' ⟨rfl, hw⟩; obtain rfl := hw.symm; rw [hdf]) | (go_at_call 26; refine HBY.out.mono ?_; rintro e w' ⟨rfl, hw⟩; obtain rfl := hw.symm; rw [hby]))
          go_ret3
          exact ⟨im_no hok.out, rfl⟩

      have h48' : (zs.getD (q + 1) 0 == 48) = false := beq_eq_false_iff_ne.2 h48
      have HL48 : Hid (zs.getD (stAt zs q) 0 ≠ 48) := by show zs.getD (stAt zs q) 0 ≠ 48; rw [HST.out]; exact h48
      clear h48
      generalize zs.getD (q + 1) 0 = z at *
      by_cases h20 : m - (q + 1) ≤ 19
      rotate_left
      · have hok : Hid (okAt zs q = false) := ok_long zs q (by rw [HST.out, HC.out]; omega) HL48.out
        rcases hex with ⟨h1, hd1⟩ | ⟨h1, c, hdf, hcz⟩
        · first
          | (exfalso; omega)
          | (go_wp2_with (go_at_call 26; refine HBY.out.mono ?_; rintro e w' ⟨rfl, hw⟩; obtain rfl := hw.symm; rw [hby])
             go_ret3
             exact ⟨im_no hok.out, rfl⟩)
        · go_wp2_with (first | (go_at_call 13; refine (dig_any _ _).mono ?_; rintro e w' ⟨rfl, hw⟩; obtain rfl := hw.symm; rw [hdf]) | (go_at_call 26; refine HBY.out.mono ?_; rintro e w' ⟨rfl, hw⟩; obtain rfl := hw.symm; rw [hby]))
          go_ret3
          exact ⟨im_no hok.out, rfl⟩

      by_cases h19 : m - (q + 1) = 19
      rotate_left
      · have HNV : Hid (num zs (q + 1) ≤ 9223372036854775808) := num_short zs (q + 1) true (by rw [HC.out]; omega)
        have hok : Hid (okAt zs q = true) := ok_yes zs q (by rw [HST.out, HNG.out]; exact HNV.out) (by rw [HST.out]; exact HNE.out) (by rw [HST.out]; exact fun h => HL48.out (by rw [HST.out]; exact h.2))
        have d19 : (((m : Int) - (q + 1) == 19) = false) := beq_eq_false_iff_ne.2 (by omega)
        rcases hex with ⟨h1, hd1⟩ | ⟨h1, c, hdf, hcz⟩
        · first
          | (exfalso; omega)
          | skip
          go_wp2_with (go_at_call 26; refine HBY.out.mono ?_; rintro e w' ⟨rfl, hw⟩; obtain rfl := hw.symm; rw [hby])
          go_loop [12, 13] (fun v i => ∃ j : Nat, q + 1 ≤ j ∧ j ≤ m ∧ i = .int .i64 j ∧ v = .int .i64 (-vt zs (q + 1) (j - (q + 1)))) (fun _ i => m - (intOf i).toNat)
          case atStart => exact ⟨q + 1, Nat.le_refl _, hqm, by go_num, by simp [vt]⟩
          case round =>
            obtain ⟨j, hsj, hjm, rfl, rfl⟩ := hrel
            have hv0 := vt_nonneg zs (q + 1) (j - (q + 1)) (by have := HC.out; omega)
            by_cases hjlt : j < m
            · have hcj : w.cell? ⟨b, off + j, none⟩ = some (.int .u8 (zs.getD j 0)) := HCC.out j (by omega)
              have hlj : (j : Int) < (len : Int) := by omega
              have hdj : 48 ≤ zs.getD j 0 ∧ zs.getD j 0 ≤ 57 := by have := digs zs (q + 1) (j - (q + 1)) (by have := HC.out; omega); rwa [show q + 1 + (j - (q + 1)) = j by omega] at this
              have hst := vt_step zs (q + 1) j hsj
              have hub : vt zs (q + 1) (j - (q + 1)) * 10 + (zs.getD j 0 - 48) ≤ 9223372036854775808 := by
                rw [← hst]
                exact Int.le_trans (vt_le_num zs (q + 1) (j + 1 - (q + 1)) (by have := HC.out; omega)) HNV.out
              have HVS := hid hst
              clear hst
              generalize zs.getD j 0 = c at *
              generalize vt zs (q + 1) (j - (q + 1)) = n at *
              go_wp2
              go_round
              case rel => exact ⟨j + 1, by omega, by omega, by go_num, congrArg (Value.int .i64) (by rw [HVS.out]; omega)⟩
              case measure => simp [intOf]; omega
            · have hje : j = m := by omega
              subst hje
              go_wp2
              go_ret3
              exact ⟨im_yes hok.out (by rw [HNG.out, if_pos rfl, HST.out, num, HC.out]) HPO.out, rfl⟩
        · go_wp2_with (first | (go_at_call 13; refine (dig_any _ _).mono ?_; rintro e w' ⟨rfl, hw⟩; obtain rfl := hw.symm; rw [hdf]) | (go_at_call 26; refine HBY.out.mono ?_; rintro e w' ⟨rfl, hw⟩; obtain rfl := hw.symm; rw [hby]))
          clear hcz hdf
          go_loop [12, 13] (fun v i => ∃ j : Nat, q + 1 ≤ j ∧ j ≤ m ∧ i = .int .i64 j ∧ v = .int .i64 (-vt zs (q + 1) (j - (q + 1)))) (fun _ i => m - (intOf i).toNat)
          case atStart => exact ⟨q + 1, Nat.le_refl _, hqm, by go_num, by simp [vt]⟩
          case round =>
            obtain ⟨j, hsj, hjm, rfl, rfl⟩ := hrel
            have hv0 := vt_nonneg zs (q + 1) (j - (q + 1)) (by have := HC.out; omega)
            by_cases hjlt : j < m
            · have hcj : w.cell? ⟨b, off + j, none⟩ = some (.int .u8 (zs.getD j 0)) := HCC.out j (by omega)
              have hlj : (j : Int) < (len : Int) := by omega
              have hdj : 48 ≤ zs.getD j 0 ∧ zs.getD j 0 ≤ 57 := by have := digs zs (q + 1) (j - (q + 1)) (by have := HC.out; omega); rwa [show q + 1 + (j - (q + 1)) = j by omega] at this
              have hst := vt_step zs (q + 1) j hsj
              have hub : vt zs (q + 1) (j - (q + 1)) * 10 + (zs.getD j 0 - 48) ≤ 9223372036854775808 := by
                rw [← hst]
                exact Int.le_trans (vt_le_num zs (q + 1) (j + 1 - (q + 1)) (by have := HC.out; omega)) HNV.out
              have HVS := hid hst
              clear hst
              generalize zs.getD j 0 = c at *
              generalize vt zs (q + 1) (j - (q + 1)) = n at *
              go_wp2
              go_round
              case rel => exact ⟨j + 1, by omega, by omega, by go_num, congrArg (Value.int .i64) (by rw [HVS.out]; omega)⟩
              case measure => simp [intOf]; omega
            · have hje : j = m := by omega
              subst hje
              go_wp2
              go_ret3
              exact ⟨im_yes hok.out (by rw [HNG.out, if_pos rfl, HST.out, num, HC.out]) HPO.out, rfl⟩

      have d19 : (((m : Int) - (q + 1) == 19) = true) := by rw [beq_iff_eq]; omega
      have HBY : Hid (Calls Try.prog 26 #[.slice (some ⟨b, off + (q + 1), none⟩) (m - (q + 1)) (cap - (q + 1)), .bool true] w fun e w' => e = .returned (.bool (decide (lim true < vt zs (q + 1) (m - (q + 1))))) ∧ w' = w) := by
        show Calls _ _ _ _ _
        rw [h19]
        refine beyond_any b (off + (q + 1)) (cap - (q + 1)) (q + 1) zs true w (fun j hj => digs zs (q + 1) j (by rw [HC.out]; omega)) (fun j hj => ?_)
        rw [Nat.add_assoc]
        exact HCC.out _ (by omega)
      have hmc : m ≤ cap := by omega
      clear h19
      by_cases hov : lim true < vt zs (q + 1) (m - (q + 1))
      · have hok : Hid (okAt zs q = false) := ok_over zs q (m - (q + 1)) (by rw [HST.out, HC.out]; omega) (by rw [HST.out, HNG.out]; exact hov)
        have hby : decide (lim true < vt zs (q + 1) (m - (q + 1))) = true := decide_eq_true hov
        clear hov
        generalize decide (lim true < vt zs (q + 1) (m - (q + 1))) = by0 at *
        rcases hex with ⟨h1, hd1⟩ | ⟨h1, c, hdf, hcz⟩
        · first
          | (exfalso; omega)
          | (go_wp2_with (go_at_call 26; refine HBY.out.mono ?_; rintro e w' ⟨rfl, hw⟩; obtain rfl := hw.symm; rw [hby])
             go_ret3
             exact ⟨im_no hok.out, rfl⟩)
        · go_wp2_with (first | (go_at_call 13; refine (dig_any _ _).mono ?_; rintro e w' ⟨rfl, hw⟩; obtain rfl := hw.symm; rw [hdf]) | (go_at_call 26; refine HBY.out.mono ?_; rintro e w' ⟨rfl, hw⟩; obtain rfl := hw.symm; rw [hby]))
          go_ret3
          exact ⟨im_no hok.out, rfl⟩

      · have HNV : Hid (num zs (q + 1) ≤ 9223372036854775808) := by show num zs (q + 1) ≤ lim true; rw [num, HC.out]; omega
        have hok : Hid (okAt zs q = true) := ok_yes zs q (by rw [HST.out, HNG.out]; exact HNV.out) (by rw [HST.out]; exact HNE.out) (by rw [HST.out]; exact fun h => HL48.out (by rw [HST.out]; exact h.2))
        have hby : decide (lim true < vt zs (q + 1) (m - (q + 1))) = false := decide_eq_false hov
        clear hov
        generalize decide (lim true < vt zs (q + 1) (m - (q + 1))) = by0 at *
        rcases hex with ⟨h1, hd1⟩ | ⟨h1, c, hdf, hcz⟩
        · first
          | (exfalso; omega)
          | skip
          go_wp2_with (go_at_call 26; refine HBY.out.mono ?_; rintro e w' ⟨rfl, hw⟩; obtain rfl := hw.symm; rw [hby])
          go_loop [12, 13] (fun v i => ∃ j : Nat, q + 1 ≤ j ∧ j ≤ m ∧ i = .int .i64 j ∧ v = .int .i64 (-vt zs (q + 1) (j - (q + 1)))) (fun _ i => m - (intOf i).toNat)
          case atStart => exact ⟨q + 1, Nat.le_refl _, hqm, by go_num, by simp [vt]⟩
          case round =>
            obtain ⟨j, hsj, hjm, rfl, rfl⟩ := hrel
            have hv0 := vt_nonneg zs (q + 1) (j - (q + 1)) (by have := HC.out; omega)
            by_cases hjlt : j < m
            · have hcj : w.cell? ⟨b, off + j, none⟩ = some (.int .u8 (zs.getD j 0)) := HCC.out j (by omega)
              have hlj : (j : Int) < (len : Int) := by omega
              have hdj : 48 ≤ zs.getD j 0 ∧ zs.getD j 0 ≤ 57 := by have := digs zs (q + 1) (j - (q + 1)) (by have := HC.out; omega); rwa [show q + 1 + (j - (q + 1)) = j by omega] at this
              have hst := vt_step zs (q + 1) j hsj
              have hub : vt zs (q + 1) (j - (q + 1)) * 10 + (zs.getD j 0 - 48) ≤ 9223372036854775808 := by
                rw [← hst]
                exact Int.le_trans (vt_le_num zs (q + 1) (j + 1 - (q + 1)) (by have := HC.out; omega)) HNV.out
              have HVS := hid hst
              clear hst
              generalize zs.getD j 0 = c at *
              generalize vt zs (q + 1) (j - (q + 1)) = n at *
              go_wp2
              go_round
              case rel => exact ⟨j + 1, by omega, by omega, by go_num, congrArg (Value.int .i64) (by rw [HVS.out]; omega)⟩
              case measure => simp [intOf]; omega
            · have hje : j = m := by omega
              subst hje
              go_wp2
              go_ret3
              exact ⟨im_yes hok.out (by rw [HNG.out, if_pos rfl, HST.out, num, HC.out]) HPO.out, rfl⟩
        · go_wp2_with (first | (go_at_call 13; refine (dig_any _ _).mono ?_; rintro e w' ⟨rfl, hw⟩; obtain rfl := hw.symm; rw [hdf]) | (go_at_call 26; refine HBY.out.mono ?_; rintro e w' ⟨rfl, hw⟩; obtain rfl := hw.symm; rw [hby]))
          clear hcz hdf
          go_loop [12, 13] (fun v i => ∃ j : Nat, q + 1 ≤ j ∧ j ≤ m ∧ i = .int .i64 j ∧ v = .int .i64 (-vt zs (q + 1) (j - (q + 1)))) (fun _ i => m - (intOf i).toNat)
          case atStart => exact ⟨q + 1, Nat.le_refl _, hqm, by go_num, by simp [vt]⟩
          case round =>
            obtain ⟨j, hsj, hjm, rfl, rfl⟩ := hrel
            have hv0 := vt_nonneg zs (q + 1) (j - (q + 1)) (by have := HC.out; omega)
            by_cases hjlt : j < m
            · have hcj : w.cell? ⟨b, off + j, none⟩ = some (.int .u8 (zs.getD j 0)) := HCC.out j (by omega)
              have hlj : (j : Int) < (len : Int) := by omega
              have hdj : 48 ≤ zs.getD j 0 ∧ zs.getD j 0 ≤ 57 := by have := digs zs (q + 1) (j - (q + 1)) (by have := HC.out; omega); rwa [show q + 1 + (j - (q + 1)) = j by omega] at this
              have hst := vt_step zs (q + 1) j hsj
              have hub : vt zs (q + 1) (j - (q + 1)) * 10 + (zs.getD j 0 - 48) ≤ 9223372036854775808 := by
                rw [← hst]
                exact Int.le_trans (vt_le_num zs (q + 1) (j + 1 - (q + 1)) (by have := HC.out; omega)) HNV.out
              have HVS := hid hst
              clear hst
              generalize zs.getD j 0 = c at *
              generalize vt zs (q + 1) (j - (q + 1)) = n at *
              go_wp2
              go_round
              case rel => exact ⟨j + 1, by omega, by omega, by go_num, congrArg (Value.int .i64) (by rw [HVS.out]; omega)⟩
              case measure => simp [intOf]; omega
            · have hje : j = m := by omega
              subst hje
              go_wp2
              go_ret3
              exact ⟨im_yes hok.out (by rw [HNG.out, if_pos rfl, HST.out, num, HC.out]) HPO.out, rfl⟩


set_option maxHeartbeats 3200000 in
theorem im_pos (b off len cap p q : Nat) (zs : List Int) (w : World) (hl : zs.length = len) (hm : len ≤ 8388608) (hcap : len ≤ cap)
    (hc : ∀ j, j < len → w.cell? ⟨b, off + j, none⟩ = some (.int .u8 (zs.getD j 0)))
    (HQ : Hid (skip zs p = q)) (hq : q < len) (hn : zs.getD q 0 ≠ 45) :
    Calls Try.prog 11 #[.slice (some ⟨b, off, none⟩) len cap, .int .i64 p] w fun e w' => IMEnd zs q e ∧ w' = w := by
  have HCC := hid hc
  have HAF : Hid (Calls Try.prog 21 #[.slice (some ⟨b, off, none⟩) len cap, .int .i64 p] w fun e w' => e = .returned (.int .i64 q) ∧ w' = w) := by
    have := after_some b off len cap p zs w hl hm hc
    rw [HQ.out] at this
    exact this
  obtain ⟨hng, hst⟩ := neg_no zs q (fun _ => hn)
  have hcx : w.cell? ⟨b, off + q, none⟩ = some (.int .u8 (zs.getD q 0)) := hc _ hq
  have hc0 : (zs.getD q 0 == 45) = false := beq_eq_false_iff_ne.2 hn
  generalize zs.getD q 0 = c0 at hcx hc0
  have HST := hid hst
  have HNG := hid hng
  have hli : (q : Int) < (len : Int) := by omega
  clear hst hng hn hc
  go_enter Try.func11, Try.ntmps11
  go_wp2_with fail
  refine HAF.out.mono ?_
  rintro e w' ⟨rfl, hw⟩
  obtain rfl := hw.symm
  clear HAF
  go_wp2
  go_loop [8] (fun i => ∃ m : Nat, q ≤ m ∧ m - q ≤ cnt zs q ∧ m ≤ len ∧ i = .int .i64 m) (fun i => len - (intOf i).toNat)
  case atStart => exact ⟨q, Nat.le_refl _, by omega, by omega, by go_num⟩
  case round =>
    obtain ⟨m, hqm, hcn, hml, rfl⟩ := hrel
    by_cases hdg : m < len ∧ 48 ≤ zs.getD m 0 ∧ zs.getD m 0 ≤ 57
    · obtain ⟨hlt, hd1, hd2⟩ := hdg
      have hcy := HCC.out m hlt
      have hli2 : (m : Int) < (len : Int) := by omega
      have HCM := hid (cnt_more zs q m hqm hcn (by omega) ⟨hd1, hd2⟩)
      have hdt : isDig (zs.getD m 0) = true := (isDig_iff _).2 ⟨hd1, hd2⟩
      clear hcx hd1 hd2
      generalize zs.getD m 0 = c at *
      go_wp2_with (go_at_call 13; refine (dig_any _ _).mono ?_; rintro e w' ⟨rfl, rfl⟩; rw [hdt])
      go_round
      case rel => exact ⟨m + 1, by omega, HCM.out, by omega, by go_num⟩
      case measure => simp [intOf]; omega
    · have HC := hid (cnt_is zs q m hqm hcn (fun h1 h2 => hdg ⟨by omega, h2⟩))
      have hex : (len ≤ m ∧ decide ((m : Int) < (len : Int)) = false) ∨ (m < len ∧ ∃ c, isDig c = false ∧ w.cell? ⟨b, off + m, none⟩ = some (.int .u8 c)) := by
        by_cases h1 : m < len
        · exact .inr ⟨h1, zs.getD m 0, (isDig_not _).2 (fun h => hdg ⟨h1, h⟩), HCC.out m h1⟩
        · exact .inl ⟨by omega, decide_eq_false (by omega)⟩
      clear hcx hdg
      by_cases hm0 : m ≤ q
      · have hok : Hid (okAt zs q = false) := ok_none zs q (by rw [HST.out, HC.out]; omega)
        rcases hex with ⟨h1, hd1⟩ | ⟨h1, c, hdf, hcz⟩
        · first
          | (exfalso; omega)
          | (go_wp2_with (go_at_call 26; refine HBY.out.mono ?_; rintro e w' ⟨rfl, hw⟩; obtain rfl := hw.symm; rw [hby])
             go_ret3
             exact ⟨im_no hok.out, rfl⟩)
        · go_wp2_with (first | (go_at_call 13; refine (dig_any _ _).mono ?_; rintro e w' ⟨rfl, hw⟩; obtain rfl := hw.symm; rw [hdf]) | (go_at_call 26; refine HBY.out.mono ?_; rintro e w' ⟨rfl, hw⟩; obtain rfl := hw.symm; rw [hby]))
          go_ret3
          exact ⟨im_no hok.out, rfl⟩

      have hsl : q < len := by omega
      have hcs : w.cell? ⟨b, off + q, none⟩ = some (.int .u8 (zs.getD q 0)) := HCC.out _ hsl
      have HNE : Hid (cnt zs q ≠ 0) := by show cnt zs q ≠ 0; rw [HC.out]; omega
      have HPO : Hid ((m : Int) = ((stAt zs q + cnt zs (stAt zs q) : Nat) : Int)) := by show (m : Int) = _; rw [HST.out, HC.out]; omega
      have e0 : (((m : Int) - (q) == 0) = false) := beq_eq_false_iff_ne.2 (by omega)
      by_cases hm1 : m ≤ q + 1
      · have HNV : Hid (num zs q ≤ 9223372036854775807) := num_short zs q false (by rw [HC.out]; omega)
        have hok : Hid (okAt zs q = true) := ok_yes zs q (by rw [HST.out, HNG.out]; exact HNV.out) (by rw [HST.out]; exact HNE.out) (by rw [HST.out, HC.out]; omega)
        have d1 : decide ((1 : Int) < (m : Int) - (q)) = false := decide_eq_false (by omega)
        have d19 : (((m : Int) - (q) == 19) = false) := beq_eq_false_iff_ne.2 (by omega)
        clear hcs
        rcases hex with ⟨h1, hd1⟩ | ⟨h1, c, hdf, hcz⟩
        · first
          | (exfalso; omega)
          | skip
          go_wp2_with (go_at_call 26; refine HBY.out.mono ?_; rintro e w' ⟨rfl, hw⟩; obtain rfl := hw.symm; rw [hby])
          go_loop [12, 13] (fun v i => ∃ j : Nat, q ≤ j ∧ j ≤ m ∧ i = .int .i64 j ∧ v = .int .i64 (vt zs q (j - q))) (fun _ i => m - (intOf i).toNat)
          case atStart => exact ⟨q, Nat.le_refl _, hqm, by go_num, by simp [vt]⟩
          case round =>
            obtain ⟨j, hsj, hjm, rfl, rfl⟩ := hrel
            have hv0 := vt_nonneg zs q (j - q) (by have := HC.out; omega)
            by_cases hjlt : j < m
            · have hcj : w.cell? ⟨b, off + j, none⟩ = some (.int .u8 (zs.getD j 0)) := HCC.out j (by omega)
              have hlj : (j : Int) < (len : Int) := by omega
              have hdj : 48 ≤ zs.getD j 0 ∧ zs.getD j 0 ≤ 57 := by have := digs zs q (j - q) (by have := HC.out; omega); rwa [show q + (j - q) = j by omega] at this
              have hst := vt_step zs q j hsj
              have hub : vt zs q (j - q) * 10 + (zs.getD j 0 - 48) ≤ 9223372036854775807 := by
                rw [← hst]
                exact Int.le_trans (vt_le_num zs q (j + 1 - q) (by have := HC.out; omega)) HNV.out
              have HVS := hid hst
              clear hst
              generalize zs.getD j 0 = c at *
              generalize vt zs q (j - q) = n at *
              go_wp2
              go_round
              case rel => exact ⟨j + 1, by omega, by omega, by go_num, congrArg (Value.int .i64) (by rw [HVS.out])⟩
              case measure => simp [intOf]; omega
            · have hje : j = m := by omega
              subst hje
              go_wp2
              go_ret3
              exact ⟨im_yes hok.out (by rw [HNG.out, if_neg (by simp), HST.out, num, HC.out]) HPO.out, rfl⟩
        · go_wp2_with (first | (go_at_call 13; refine (dig_any _ _).mono ?_; rintro e w' ⟨rfl, hw⟩; obtain rfl := hw.symm; rw [hdf]) | (go_at_call 26; refine HBY.out.mono ?_; rintro e w' ⟨rfl, hw⟩; obtain rfl := hw.symm; rw [hby]))
          clear hcz hdf
          go_loop [12, 13] (fun v i => ∃ j : Nat, q ≤ j ∧ j ≤ m ∧ i = .int .i64 j ∧ v = .int .i64 (vt zs q (j - q))) (fun _ i => m - (intOf i).toNat)
          case atStart => exact ⟨q, Nat.le_refl _, hqm, by go_num, by simp [vt]⟩
          case round =>
            obtain ⟨j, hsj, hjm, rfl, rfl⟩ := hrel
            have hv0 := vt_nonneg zs q (j - q) (by have := HC.out; omega)
            by_cases hjlt : j < m
            · have hcj : w.cell? ⟨b, off + j, none⟩ = some (.int .u8 (zs.getD j 0)) := HCC.out j (by omega)
              have hlj : (j : Int) < (len : Int) := by omega
              have hdj : 48 ≤ zs.getD j 0 ∧ zs.getD j 0 ≤ 57 := by have := digs zs q (j - q) (by have := HC.out; omega); rwa [show q + (j - q) = j by omega] at this
              have hst := vt_step zs q j hsj
              have hub : vt zs q (j - q) * 10 + (zs.getD j 0 - 48) ≤ 9223372036854775807 := by
                rw [← hst]
                exact Int.le_trans (vt_le_num zs q (j + 1 - q) (by have := HC.out; omega)) HNV.out
              have HVS := hid hst
              clear hst
              generalize zs.getD j 0 = c at *
              generalize vt zs q (j - q) = n at *
              go_wp2
              go_round
              case rel => exact ⟨j + 1, by omega, by omega, by go_num, congrArg (Value.int .i64) (by rw [HVS.out])⟩
              case measure => simp [intOf]; omega
            · have hje : j = m := by omega
              subst hje
              go_wp2
              go_ret3
              exact ⟨im_yes hok.out (by rw [HNG.out, if_neg (by simp), HST.out, num, HC.out]) HPO.out, rfl⟩

      have d1 : decide ((1 : Int) < (m : Int) - (q)) = true := decide_eq_true (by omega)
      by_cases h48 : zs.getD q 0 = 48
      · have hok : Hid (okAt zs q = false) := ok_zero zs q (by rw [HST.out, HC.out]; omega) (by rw [HST.out]; exact h48)
        rw [h48] at hcs
        clear h48
        rcases hex with ⟨h1, hd1⟩ | ⟨h1, c, hdf, hcz⟩
        · first
          | (exfalso; omega)
          | (go_wp2_with (go_at_call 26; refine HBY.out.mono ?_; rintro e w' ⟨rfl, hw⟩; obtain rfl := hw.symm; rw [hby])
             go_ret3
             exact ⟨im_no hok.out, rfl⟩)
        · go_wp2_with (first | (go_at_call 13; refine (dig_any _ _).mono ?_; rintro e w' ⟨rfl, hw⟩; obtain rfl := hw.symm; rw [hdf]) | (go_at_call 26; refine HBY.out.mono ?_; rintro e w' ⟨rfl, hw⟩; obtain rfl := hw.symm; rw [hby]))
          go_ret3
          exact ⟨im_no hok.out, rfl⟩

      have h48' : (zs.getD q 0 == 48) = false := beq_eq_false_iff_ne.2 h48
      have HL48 : Hid (zs.getD (stAt zs q) 0 ≠ 48) := by show zs.getD (stAt zs q) 0 ≠ 48; rw [HST.out]; exact h48
      clear h48
      generalize zs.getD q 0 = z at *
      by_cases h20 : m - q ≤ 19
      rotate_left
      · have hok : Hid (okAt zs q = false) := ok_long zs q (by rw [HST.out, HC.out]; omega) HL48.out
        rcases hex with ⟨h1, hd1⟩ | ⟨h1, c, hdf, hcz⟩
        · first
          | (exfalso; omega)
          | (go_wp2_with (go_at_call 26; refine HBY.out.mono ?_; rintro e w' ⟨rfl, hw⟩; obtain rfl := hw.symm; rw [hby])
             go_ret3
             exact ⟨im_no hok.out, rfl⟩)
        · go_wp2_with (first | (go_at_call 13; refine (dig_any _ _).mono ?_; rintro e w' ⟨rfl, hw⟩; obtain rfl := hw.symm; rw [hdf]) | (go_at_call 26; refine HBY.out.mono ?_; rintro e w' ⟨rfl, hw⟩; obtain rfl := hw.symm; rw [hby]))
          go_ret3
          exact ⟨im_no hok.out, rfl⟩

      by_cases h19 : m - q = 19
      rotate_left
      · have HNV : Hid (num zs q ≤ 9223372036854775807) := num_short zs q false (by rw [HC.out]; omega)
        have hok : Hid (okAt zs q = true) := ok_yes zs q (by rw [HST.out, HNG.out]; exact HNV.out) (by rw [HST.out]; exact HNE.out) (by rw [HST.out]; exact fun h => HL48.out (by rw [HST.out]; exact h.2))
        have d19 : (((m : Int) - (q) == 19) = false) := beq_eq_false_iff_ne.2 (by omega)
        rcases hex with ⟨h1, hd1⟩ | ⟨h1, c, hdf, hcz⟩
        · first
          | (exfalso; omega)
          | skip
          go_wp2_with (go_at_call 26; refine HBY.out.mono ?_; rintro e w' ⟨rfl, hw⟩; obtain rfl := hw.symm; rw [hby])
          go_loop [12, 13] (fun v i => ∃ j : Nat, q ≤ j ∧ j ≤ m ∧ i = .int .i64 j ∧ v = .int .i64 (vt zs q (j - q))) (fun _ i => m - (intOf i).toNat)
          case atStart => exact ⟨q, Nat.le_refl _, hqm, by go_num, by simp [vt]⟩
          case round =>
            obtain ⟨j, hsj, hjm, rfl, rfl⟩ := hrel
            have hv0 := vt_nonneg zs q (j - q) (by have := HC.out; omega)
            by_cases hjlt : j < m
            · have hcj : w.cell? ⟨b, off + j, none⟩ = some (.int .u8 (zs.getD j 0)) := HCC.out j (by omega)
              have hlj : (j : Int) < (len : Int) := by omega
              have hdj : 48 ≤ zs.getD j 0 ∧ zs.getD j 0 ≤ 57 := by have := digs zs q (j - q) (by have := HC.out; omega); rwa [show q + (j - q) = j by omega] at this
              have hst := vt_step zs q j hsj
              have hub : vt zs q (j - q) * 10 + (zs.getD j 0 - 48) ≤ 9223372036854775807 := by
                rw [← hst]
                exact Int.le_trans (vt_le_num zs q (j + 1 - q) (by have := HC.out; omega)) HNV.out
              have HVS := hid hst
              clear hst
              generalize zs.getD j 0 = c at *
              generalize vt zs q (j - q) = n at *
              go_wp2
              go_round
              case rel => exact ⟨j + 1, by omega, by omega, by go_num, congrArg (Value.int .i64) (by rw [HVS.out])⟩
              case measure => simp [intOf]; omega
            · have hje : j = m := by omega
              subst hje
              go_wp2
              go_ret3
              exact ⟨im_yes hok.out (by rw [HNG.out, if_neg (by simp), HST.out, num, HC.out]) HPO.out, rfl⟩
        · go_wp2_with (first | (go_at_call 13; refine (dig_any _ _).mono ?_; rintro e w' ⟨rfl, hw⟩; obtain rfl := hw.symm; rw [hdf]) | (go_at_call 26; refine HBY.out.mono ?_; rintro e w' ⟨rfl, hw⟩; obtain rfl := hw.symm; rw [hby]))
          clear hcz hdf
          go_loop [12, 13] (fun v i => ∃ j : Nat, q ≤ j ∧ j ≤ m ∧ i = .int .i64 j ∧ v = .int .i64 (vt zs q (j - q))) (fun _ i => m - (intOf i).toNat)
          case atStart => exact ⟨q, Nat.le_refl _, hqm, by go_num, by simp [vt]⟩
          case round =>
            obtain ⟨j, hsj, hjm, rfl, rfl⟩ := hrel
            have hv0 := vt_nonneg zs q (j - q) (by have := HC.out; omega)
            by_cases hjlt : j < m
            · have hcj : w.cell? ⟨b, off + j, none⟩ = some (.int .u8 (zs.getD j 0)) := HCC.out j (by omega)
              have hlj : (j : Int) < (len : Int) := by omega
              have hdj : 48 ≤ zs.getD j 0 ∧ zs.getD j 0 ≤ 57 := by have := digs zs q (j - q) (by have := HC.out; omega); rwa [show q + (j - q) = j by omega] at this
              have hst := vt_step zs q j hsj
              have hub : vt zs q (j - q) * 10 + (zs.getD j 0 - 48) ≤ 9223372036854775807 := by
                rw [← hst]
                exact Int.le_trans (vt_le_num zs q (j + 1 - q) (by have := HC.out; omega)) HNV.out
              have HVS := hid hst
              clear hst
              generalize zs.getD j 0 = c at *
              generalize vt zs q (j - q) = n at *
              go_wp2
              go_round
              case rel => exact ⟨j + 1, by omega, by omega, by go_num, congrArg (Value.int .i64) (by rw [HVS.out])⟩
              case measure => simp [intOf]; omega
            · have hje : j = m := by omega
              subst hje
              go_wp2
              go_ret3
              exact ⟨im_yes hok.out (by rw [HNG.out, if_neg (by simp), HST.out, num, HC.out]) HPO.out, rfl⟩

      have d19 : (((m : Int) - (q) == 19) = true) := by rw [beq_iff_eq]; omega
      have HBY : Hid (Calls Try.prog 26 #[.slice (some ⟨b, off + q, none⟩) (m - q) (cap - q), .bool false] w fun e w' => e = .returned (.bool (decide (lim false < vt zs q (m - q)))) ∧ w' = w) := by
        show Calls _ _ _ _ _
        rw [h19]
        refine beyond_any b (off + q) (cap - q) q zs false w (fun j hj => digs zs q j (by rw [HC.out]; omega)) (fun j hj => ?_)
        rw [Nat.add_assoc]
        exact HCC.out _ (by omega)
      have hmc : m ≤ cap := by omega
      clear h19
      by_cases hov : lim false < vt zs q (m - q)
      · have hok : Hid (okAt zs q = false) := ok_over zs q (m - q) (by rw [HST.out, HC.out]; omega) (by rw [HST.out, HNG.out]; exact hov)
        have hby : decide (lim false < vt zs q (m - q)) = true := decide_eq_true hov
        clear hov
        generalize decide (lim false < vt zs q (m - q)) = by0 at *
        rcases hex with ⟨h1, hd1⟩ | ⟨h1, c, hdf, hcz⟩
        · first
          | (exfalso; omega)
          | (go_wp2_with (go_at_call 26; refine HBY.out.mono ?_; rintro e w' ⟨rfl, hw⟩; obtain rfl := hw.symm; rw [hby])
             go_ret3
             exact ⟨im_no hok.out, rfl⟩)
        · go_wp2_with (first | (go_at_call 13; refine (dig_any _ _).mono ?_; rintro e w' ⟨rfl, hw⟩; obtain rfl := hw.symm; rw [hdf]) | (go_at_call 26; refine HBY.out.mono ?_; rintro e w' ⟨rfl, hw⟩; obtain rfl := hw.symm; rw [hby]))
          go_ret3
          exact ⟨im_no hok.out, rfl⟩

      · have HNV : Hid (num zs q ≤ 9223372036854775807) := by show num zs q ≤ lim false; rw [num, HC.out]; omega
        have hok : Hid (okAt zs q = true) := ok_yes zs q (by rw [HST.out, HNG.out]; exact HNV.out) (by rw [HST.out]; exact HNE.out) (by rw [HST.out]; exact fun h => HL48.out (by rw [HST.out]; exact h.2))
        have hby : decide (lim false < vt zs q (m - q)) = false := decide_eq_false hov
        clear hov
        generalize decide (lim false < vt zs q (m - q)) = by0 at *
        rcases hex with ⟨h1, hd1⟩ | ⟨h1, c, hdf, hcz⟩
        · first
          | (exfalso; omega)
          | skip
          go_wp2_with (go_at_call 26; refine HBY.out.mono ?_; rintro e w' ⟨rfl, hw⟩; obtain rfl := hw.symm; rw [hby])
          go_loop [12, 13] (fun v i => ∃ j : Nat, q ≤ j ∧ j ≤ m ∧ i = .int .i64 j ∧ v = .int .i64 (vt zs q (j - q))) (fun _ i => m - (intOf i).toNat)
          case atStart => exact ⟨q, Nat.le_refl _, hqm, by go_num, by simp [vt]⟩
          case round =>
            obtain ⟨j, hsj, hjm, rfl, rfl⟩ := hrel
            have hv0 := vt_nonneg zs q (j - q) (by have := HC.out; omega)
            by_cases hjlt : j < m
            · have hcj : w.cell? ⟨b, off + j, none⟩ = some (.int .u8 (zs.getD j 0)) := HCC.out j (by omega)
              have hlj : (j : Int) < (len : Int) := by omega
              have hdj : 48 ≤ zs.getD j 0 ∧ zs.getD j 0 ≤ 57 := by have := digs zs q (j - q) (by have := HC.out; omega); rwa [show q + (j - q) = j by omega] at this
              have hst := vt_step zs q j hsj
              have hub : vt zs q (j - q) * 10 + (zs.getD j 0 - 48) ≤ 9223372036854775807 := by
                rw [← hst]
                exact Int.le_trans (vt_le_num zs q (j + 1 - q) (by have := HC.out; omega)) HNV.out
              have HVS := hid hst
              clear hst
              generalize zs.getD j 0 = c at *
              generalize vt zs q (j - q) = n at *
              go_wp2
              go_round
              case rel => exact ⟨j + 1, by omega, by omega, by go_num, congrArg (Value.int .i64) (by rw [HVS.out])⟩
              case measure => simp [intOf]; omega
            · have hje : j = m := by omega
              subst hje
              go_wp2
              go_ret3
              exact ⟨im_yes hok.out (by rw [HNG.out, if_neg (by simp), HST.out, num, HC.out]) HPO.out, rfl⟩
        · go_wp2_with (first | (go_at_call 13; refine (dig_any _ _).mono ?_; rintro e w' ⟨rfl, hw⟩; obtain rfl := hw.symm; rw [hdf]) | (go_at_call 26; refine HBY.out.mono ?_; rintro e w' ⟨rfl, hw⟩; obtain rfl := hw.symm; rw [hby]))
          clear hcz hdf
          go_loop [12, 13] (fun v i => ∃ j : Nat, q ≤ j ∧ j ≤ m ∧ i = .int .i64 j ∧ v = .int .i64 (vt zs q (j - q))) (fun _ i => m - (intOf i).toNat)
          case atStart => exact ⟨q, Nat.le_refl _, hqm, by go_num, by simp [vt]⟩
          case round =>
            obtain ⟨j, hsj, hjm, rfl, rfl⟩ := hrel
            have hv0 := vt_nonneg zs q (j - q) (by have := HC.out; omega)
            by_cases hjlt : j < m
            · have hcj : w.cell? ⟨b, off + j, none⟩ = some (.int .u8 (zs.getD j 0)) := HCC.out j (by omega)
              have hlj : (j : Int) < (len : Int) := by omega
              have hdj : 48 ≤ zs.getD j 0 ∧ zs.getD j 0 ≤ 57 := by have := digs zs q (j - q) (by have := HC.out; omega); rwa [show q + (j - q) = j by omega] at this
              have hst := vt_step zs q j hsj
              have hub : vt zs q (j - q) * 10 + (zs.getD j 0 - 48) ≤ 9223372036854775807 := by
                rw [← hst]
                exact Int.le_trans (vt_le_num zs q (j + 1 - q) (by have := HC.out; omega)) HNV.out
              have HVS := hid hst
              clear hst
              generalize zs.getD j 0 = c at *
              generalize vt zs q (j - q) = n at *
              go_wp2
              go_round
              case rel => exact ⟨j + 1, by omega, by omega, by go_num, congrArg (Value.int .i64) (by rw [HVS.out])⟩
              case measure => simp [intOf]; omega
            · have hje : j = m := by omega
              subst hje
              go_wp2
              go_ret3
              exact ⟨im_yes hok.out (by rw [HNG.out, if_neg (by simp), HST.out, num, HC.out]) HPO.out, rfl⟩


end Go.Proofs.Qxb6601954a
