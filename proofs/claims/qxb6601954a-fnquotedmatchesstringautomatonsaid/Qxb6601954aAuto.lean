import Derived.Test.Qxb6601954aZZQuoted
import Derived.Test.Qxb6601954aAfter
import Derived.Test.Qxb6601954aPlainA
namespace Go.Proofs.Qxb6601954a
open Go.ChangeShapes Go.WideShapes Go.ChangeAt Go.RowKit

theorem results_tmp4 {fn : Func} {t u v x : Tmp} (h : fn.results = #[.tmp t, .tmp u, .tmp v, .tmp x]) (tmps : Array Value) (P : Program) (w : World) :
    (results fn tmps).run P w = .ok (.tuple #[tmps.getD t undef, tmps.getD u undef, tmps.getD v undef, tmps.getD x undef]) w := by
  simp [results, h]

theorem short_any (c : Int) (w : World) : Calls Try.prog 28 #[.int .u8 c] w fun e w' => e = .returned (.bool (short c)) ∧ w' = w := by
  by_cases hs : short c = true
  · have hs' : c = 34 ∨ c = 92 ∨ c = 47 ∨ c = 98 ∨ c = 102 ∨ c = 110 ∨ c = 114 ∨ c = 116 := by
      simp only [short, Bool.or_eq_true, beq_iff_eq] at hs
      omega
    clear hs
    rcases hs' with rfl | rfl | rfl | rfl | rfl | rfl | rfl | rfl
    all_goals
      go_enter Try.func28, Try.ntmps28
      go_wp2
      go_ret
      exact ⟨rfl, rfl⟩
  · have HS : Hid (short c = false) := by show short c = false; simpa using hs
    have hs' : c ≠ 34 ∧ c ≠ 92 ∧ c ≠ 47 ∧ c ≠ 98 ∧ c ≠ 102 ∧ c ≠ 110 ∧ c ≠ 114 ∧ c ≠ 116 := by
      simp only [short, Bool.or_eq_true, beq_iff_eq] at hs
      omega
    obtain ⟨g1, g2, g3, g4, g5, g6, g7, g8⟩ := hs'
    have e1 := beq_eq_false_iff_ne.2 g1
    have e2 := beq_eq_false_iff_ne.2 g2
    have e3 := beq_eq_false_iff_ne.2 g3
    have e4 := beq_eq_false_iff_ne.2 g4
    have e5 := beq_eq_false_iff_ne.2 g5
    have e6 := beq_eq_false_iff_ne.2 g6
    have e7 := beq_eq_false_iff_ne.2 g7
    have e8 := beq_eq_false_iff_ne.2 g8
    clear g1 g2 g3 g4 g5 g6 g7 g8 hs
    go_enter Try.func28, Try.ntmps28
    go_wp2
    go_ret
    exact ⟨by rw [HS.out]; rfl, rfl⟩

theorem hex_any (c : Int) (w : World) : Calls Try.prog 29 #[.int .u8 c] w fun e w' => e = .returned (.bool (hexd c)) ∧ w' = w := by
  rcases seven c with h1 | ⟨h1, h2⟩ | ⟨h1, h2⟩ | ⟨h1, h2⟩ | ⟨h1, h2⟩ | ⟨h1, h2⟩ | h1
  · have HS := hid (hexd_no c (by omega))
    have d1 : decide (48 ≤ c) = false := decide_eq_false (by omega)
    have d3 : decide (97 ≤ c) = false := decide_eq_false (by omega)
    have d5 : decide (65 ≤ c) = false := decide_eq_false (by omega)
    go_enter Try.func29, Try.ntmps29
    go_wp2
    go_ret
    exact ⟨by rw [HS.out]; rfl, rfl⟩
  · have HS := hid (hexd_yes c (.inl ⟨h1, h2⟩))
    have d1 : decide (48 ≤ c) = true := decide_eq_true (by omega)
    have d2 : decide (c ≤ 57) = true := decide_eq_true (by omega)
    go_enter Try.func29, Try.ntmps29
    go_wp2
    go_ret
    exact ⟨by rw [HS.out]; rfl, rfl⟩
  · have HS := hid (hexd_no c (by omega))
    have d1 : decide (48 ≤ c) = true := decide_eq_true (by omega)
    have d2 : decide (c ≤ 57) = false := decide_eq_false (by omega)
    have d3 : decide (97 ≤ c) = false := decide_eq_false (by omega)
    have d5 : decide (65 ≤ c) = false := decide_eq_false (by omega)
    go_enter Try.func29, Try.ntmps29
    go_wp2
    go_ret
    exact ⟨by rw [HS.out]; rfl, rfl⟩
  · have HS := hid (hexd_yes c (.inr (.inl ⟨h1, h2⟩)))
    have d1 : decide (48 ≤ c) = true := decide_eq_true (by omega)
    have d2 : decide (c ≤ 57) = false := decide_eq_false (by omega)
    have d3 : decide (97 ≤ c) = false := decide_eq_false (by omega)
    have d5 : decide (65 ≤ c) = true := decide_eq_true (by omega)
    have d6 : decide (c ≤ 70) = true := decide_eq_true (by omega)
    go_enter Try.func29, Try.ntmps29
    go_wp2
    go_ret
    exact ⟨by rw [HS.out]; rfl, rfl⟩
  · have HS := hid (hexd_no c (by omega))
    have d1 : decide (48 ≤ c) = true := decide_eq_true (by omega)
    have d2 : decide (c ≤ 57) = false := decide_eq_false (by omega)
    have d3 : decide (97 ≤ c) = false := decide_eq_false (by omega)
    have d5 : decide (65 ≤ c) = true := decide_eq_true (by omega)
    have d6 : decide (c ≤ 70) = false := decide_eq_false (by omega)
    go_enter Try.func29, Try.ntmps29
    go_wp2
    go_ret
    exact ⟨by rw [HS.out]; rfl, rfl⟩
  · have HS := hid (hexd_yes c (.inr (.inr ⟨h1, h2⟩)))
    have d1 : decide (48 ≤ c) = true := decide_eq_true (by omega)
    have d2 : decide (c ≤ 57) = false := decide_eq_false (by omega)
    have d3 : decide (97 ≤ c) = true := decide_eq_true (by omega)
    have d4 : decide (c ≤ 102) = true := decide_eq_true (by omega)
    go_enter Try.func29, Try.ntmps29
    go_wp2
    go_ret
    exact ⟨by rw [HS.out]; rfl, rfl⟩
  · have HS := hid (hexd_no c (by omega))
    have d1 : decide (48 ≤ c) = true := decide_eq_true (by omega)
    have d2 : decide (c ≤ 57) = false := decide_eq_false (by omega)
    have d3 : decide (97 ≤ c) = true := decide_eq_true (by omega)
    have d4 : decide (c ≤ 102) = false := decide_eq_false (by omega)
    have d5 : decide (65 ≤ c) = true := decide_eq_true (by omega)
    have d6 : decide (c ≤ 70) = false := decide_eq_false (by omega)
    go_enter Try.func29, Try.ntmps29
    go_wp2
    go_ret
    exact ⟨by rw [HS.out]; rfl, rfl⟩

/-- what the automaton answers -/
def AEnd (es : Bool) (zs : List Int) (q : Nat) (e : Ending) : Prop :=
  (qres es zs q = none ∧ e = .returned (.tuple #[.bool false, .int .i64 0, .int .i64 0, .int .i64 q])) ∨
  ∃ c : Nat, qres es zs q = some c ∧ e = .returned (.tuple #[.bool true, .int .i64 q, .int .i64 c, .int .i64 ((c : Int) + 1)])

set_option maxHeartbeats 800000 in
theorem auto_none (es : Bool) (b off len cap p q : Nat) (zs : List Int) (w : World) (hl : zs.length = len) (hm : len ≤ 8388608)
    (hc : ∀ j, j < len → w.cell? ⟨b, off + j, none⟩ = some (.int .u8 (zs.getD j 0)))
    (HQ : Hid (skip zs p = q)) (hql : q ≤ len) (hn : q < len → zs.getD q 0 ≠ 34) :
    Calls Try.prog 17 #[.slice (some ⟨b, off, none⟩) len cap, .int .i64 p, .bool es] w fun e w' => AEnd es zs q e ∧ w' = w := by
  have HCC := hid hc
  have HAF : Hid (Calls Try.prog 21 #[.slice (some ⟨b, off, none⟩) len cap, .int .i64 p] w fun e w' => e = .returned (.int .i64 q) ∧ w' = w) := by
    have := after_some b off len cap p zs w hl hm hc
    rw [HQ.out] at this
    exact this
  have hres : Hid (qres es zs q = none) := by
    show qres es zs q = none
    rw [qres, if_neg]
    rintro ⟨h1, h2⟩
    exact hn (by omega) h2
  clear hc
  by_cases hq : q < len
  · have hcx := HCC.out q hq
    have hli : (q : Int) < (len : Int) := by omega
    have hd : decide ((len : Int) ≤ (q : Int)) = false := decide_eq_false (by omega)
    have hnb : (zs.getD q 0 != 34) = true := bne_iff_ne.2 (hn hq)
    clear hn
    generalize zs.getD q 0 = c at *
    go_enter Try.func17, Try.ntmps17
    go_wp2_with fail
    refine HAF.out.mono ?_
    rintro e w' ⟨rfl, hw⟩
    obtain rfl := hw.symm
    go_wp2
    refine bodyPost_ret (results_tmp4 rfl _ _ _) rfl ?_
    exact ⟨.inl ⟨hres.out, rfl⟩, rfl⟩
  · have hd : decide ((len : Int) ≤ (q : Int)) = true := decide_eq_true (by omega)
    clear hn
    go_enter Try.func17, Try.ntmps17
    go_wp2_with fail
    refine HAF.out.mono ?_
    rintro e w' ⟨rfl, hw⟩
    obtain rfl := hw.symm
    go_wp2
    refine bodyPost_ret (results_tmp4 rfl _ _ _) rfl ?_
    exact ⟨.inl ⟨hres.out, rfl⟩, rfl⟩

set_option maxHeartbeats 3200000 in
theorem auto_open (es : Bool) (b off len cap p q : Nat) (zs : List Int) (w : World) (hl : zs.length = len) (hm : len ≤ 8388608)
    (hz : ∀ j, 0 ≤ zs.getD j 0 ∧ zs.getD j 0 ≤ 255) (hc : ∀ j, j < len → w.cell? ⟨b, off + j, none⟩ = some (.int .u8 (zs.getD j 0)))
    (HQ : Hid (skip zs p = q)) (hq : q < len) (hn : zs.getD q 0 = 34) :
    Calls Try.prog 17 #[.slice (some ⟨b, off, none⟩) len cap, .int .i64 p, .bool es] w fun e w' => AEnd es zs q e ∧ w' = w := by
  have HCC := hid hc
  have HAF : Hid (Calls Try.prog 21 #[.slice (some ⟨b, off, none⟩) len cap, .int .i64 p] w fun e w' => e = .returned (.int .i64 q) ∧ w' = w) := by
    have := after_some b off len cap p zs w hl hm hc
    rw [HQ.out] at this
    exact this
  have hres : Hid (qres es zs q = aut es zs (q + 1) 0) := by
    show qres es zs q = _
    rw [qres, if_pos ⟨by omega, hn⟩, aut_qs es zs (zs.length - (q + 1)) (q + 1) (Nat.le_refl _)]
  have hcx : w.cell? ⟨b, off + q, none⟩ = some (.int .u8 34) := by rw [← hn]; exact hc q hq
  have hli : (q : Int) < (len : Int) := by omega
  have hd : decide ((len : Int) ≤ (q : Int)) = false := decide_eq_false (by omega)
  have hd' : decide (len ≤ q) = false := decide_eq_false (by omega)
  clear hc hn
  go_enter Try.func17, Try.ntmps17
  go_wp2_with fail
  refine HAF.out.mono ?_
  rintro e w' ⟨rfl, hw⟩
  obtain rfl := hw.symm
  clear HAF
  go_wp2
  go_loop [11, 12] (fun s i => ∃ m st : Nat, q + 1 ≤ m ∧ m ≤ len ∧ st ≤ 5 ∧ s = .int .i64 st ∧ i = .int .i64 m ∧ aut es zs m st = aut es zs (q + 1) 0) (fun _ i => len - (intOf i).toNat)
  case atStart => exact ⟨q + 1, 0, Nat.le_refl _, by omega, by omega, rfl, by go_num, rfl⟩
  case round =>
    obtain ⟨m, st, hqm, hml, hst5, rfl, rfl, hau⟩ := hrel
    have HA := hid hau
    clear hau hcx
    by_cases hlt : m < len
    · have hcm := HCC.out m hlt
      have hlm : (m : Int) < (len : Int) := by omega
      have hzm := hz m
      have HNO : Hid (aut es zs m st = none → qres es zs q = none) := fun h => by rw [hres.out, ← HA.out]; exact h
      clear hz
      by_cases h0 : st = 0
      · subst h0
        by_cases h34 : zs.getD m 0 = 34
        · have HR : Hid (qres es zs q = some m) := by
            show qres es zs q = some m
            rw [hres.out, ← HA.out, aut0_quote es zs m (by omega) h34]
          rw [h34] at hcm
          clear h34 hzm HNO
          go_wp2
          refine bodyPost_ret (results_tmp4 rfl _ _ _) rfl ?_
          exact ⟨.inr ⟨m, HR.out, rfl⟩, rfl⟩
        have e34 := beq_eq_false_iff_ne.2 h34
        by_cases h32 : zs.getD m 0 < 32
        · have HR := hid (HNO.out (aut0_ctl es zs m (by omega) h32))
          clear h34 HNO
          generalize zs.getD m 0 = c at *
          go_wp2
          refine bodyPost_ret (results_tmp4 rfl _ _ _) rfl ?_
          exact ⟨.inl ⟨HR.out, rfl⟩, rfl⟩
        by_cases h92 : zs.getD m 0 = 92
        · cases es with
          | false =>
            have HR := hid (HNO.out (aut0_no zs m (by omega) h92))
            rw [h92] at hcm
            clear h34 h32 e34 h92 hzm HNO
            go_wp2
            refine bodyPost_ret (results_tmp4 rfl _ _ _) rfl ?_
            exact ⟨.inl ⟨HR.out, rfl⟩, rfl⟩
          | true =>
            have HN : Hid (aut true zs (m + 1) 1 = aut true zs (q + 1) 0) := by
              show aut true zs (m + 1) 1 = _
              rw [← HA.out, aut0_bs zs m (by omega) h92]
            rw [h92] at hcm
            clear h34 h32 e34 h92 hzm HNO
            go_wp2
            go_round
            case rel => exact ⟨m + 1, 1, by omega, by omega, by omega, rfl, by go_num, HN.out⟩
            case measure => simp [intOf]; omega
        · have HN : Hid (aut es zs (m + 1) 0 = aut es zs (q + 1) 0) := by
            show aut es zs (m + 1) 0 = _
            rw [← HA.out, aut0_step es zs m (by omega) h34 (by omega) h92]
          have e92 := beq_eq_false_iff_ne.2 h92
          have d32 : decide (zs.getD m 0 < 32) = false := decide_eq_false h32
          clear h34 h92 HNO
          generalize zs.getD m 0 = c at *
          go_wp2
          go_round
          case rel => exact ⟨m + 1, 0, by omega, by omega, by omega, rfl, by go_num, HN.out⟩
          case measure => simp [intOf]; omega
      have e0 : ((st : Int) == 0) = false := beq_eq_false_iff_ne.2 (by omega)
      by_cases h1 : st = 1
      · subst h1
        by_cases hs : short (zs.getD m 0) = true
        · have HN : Hid (aut es zs (m + 1) 0 = aut es zs (q + 1) 0) := by
            show aut es zs (m + 1) 0 = _
            rw [← HA.out, aut1_short es zs m (by omega) hs]
          clear HNO
          generalize zs.getD m 0 = c at *
          go_wp2_with (go_at_call 28; refine (short_any _ _).mono ?_; rintro e w' ⟨rfl, hw⟩; obtain rfl := hw.symm; rw [hs])
          go_round
          case rel => exact ⟨m + 1, 0, by omega, by omega, by omega, rfl, by go_num, HN.out⟩
          case measure => simp [intOf]; omega
        have hs' : short (zs.getD m 0) = false := by simpa using hs
        clear hs
        by_cases hu : zs.getD m 0 = 117
        · have HN : Hid (aut es zs (m + 1) 2 = aut es zs (q + 1) 0) := by
            show aut es zs (m + 1) 2 = _
            rw [← HA.out, aut1_u es zs m (by omega) hs' hu]
          have eu : (zs.getD m 0 == 117) = true := by rw [beq_iff_eq]; exact hu
          clear HNO hu
          generalize zs.getD m 0 = c at *
          go_wp2_with (go_at_call 28; refine (short_any _ _).mono ?_; rintro e w' ⟨rfl, hw⟩; obtain rfl := hw.symm; rw [hs'])
          go_round
          case rel => exact ⟨m + 1, 2, by omega, by omega, by omega, rfl, by go_num, HN.out⟩
          case measure => simp [intOf]; omega
        · have HR := hid (HNO.out (aut1_no es zs m (by omega) hs' hu))
          have eu := beq_eq_false_iff_ne.2 hu
          clear HNO hu
          generalize zs.getD m 0 = c at *
          go_wp2_with (go_at_call 28; refine (short_any _ _).mono ?_; rintro e w' ⟨rfl, hw⟩; obtain rfl := hw.symm; rw [hs'])
          refine bodyPost_ret (results_tmp4 rfl _ _ _) rfl ?_
          exact ⟨.inl ⟨HR.out, rfl⟩, rfl⟩
      have e1 : ((st : Int) == 1) = false := beq_eq_false_iff_ne.2 (by omega)
      by_cases hh : hexd (zs.getD m 0) = true
      · have HN0 := hid (autx_yes es zs m st (by omega) (by omega) hh)
        clear HNO
        by_cases h5 : st = 5
        · have HN : Hid (aut es zs (m + 1) 0 = aut es zs (q + 1) 0) := by
            show aut es zs (m + 1) 0 = _
            rw [← HA.out, HN0.out, if_pos h5]
          have e5 : ((st : Int) == 5) = true := by rw [beq_iff_eq]; omega
          clear h5 HN0
          generalize zs.getD m 0 = c at *
          go_wp2_with (go_at_call 29; refine (hex_any _ _).mono ?_; rintro e w' ⟨rfl, hw⟩; obtain rfl := hw.symm; rw [hh])
          go_round
          case rel => exact ⟨m + 1, 0, by omega, by omega, by omega, rfl, by go_num, HN.out⟩
          case measure => simp [intOf]; omega
        · have HN : Hid (aut es zs (m + 1) (st + 1) = aut es zs (q + 1) 0) := by
            show aut es zs (m + 1) (st + 1) = _
            rw [← HA.out, HN0.out, if_neg h5]
          have e5 : ((st : Int) == 5) = false := beq_eq_false_iff_ne.2 (by omega)
          clear HN0
          generalize zs.getD m 0 = c at *
          go_wp2_with (go_at_call 29; refine (hex_any _ _).mono ?_; rintro e w' ⟨rfl, hw⟩; obtain rfl := hw.symm; rw [hh])
          go_round
          case rel => exact ⟨m + 1, st + 1, by omega, by omega, by omega, by go_num, by go_num, HN.out⟩
          case measure => simp [intOf]; omega
      · have hh' : hexd (zs.getD m 0) = false := by simpa using hh
        have HR := hid (HNO.out (autx_no es zs m st (by omega) (by omega) hh'))
        clear HNO hh
        generalize zs.getD m 0 = c at *
        go_wp2_with (go_at_call 29; refine (hex_any _ _).mono ?_; rintro e w' ⟨rfl, hw⟩; obtain rfl := hw.symm; rw [hh'])
        refine bodyPost_ret (results_tmp4 rfl _ _ _) rfl ?_
        exact ⟨.inl ⟨HR.out, rfl⟩, rfl⟩
    · have HR : Hid (qres es zs q = none) := by
        show qres es zs q = none
        rw [hres.out, ← HA.out, aut_end es zs m st (by omega)]
      clear hz
      go_wp2
      refine bodyPost_ret (results_tmp4 rfl _ _ _) rfl ?_
      exact ⟨.inl ⟨HR.out, rfl⟩, rfl⟩

theorem auto_zero (es : Bool) (a : Option Addr) (cap : Nat) (w : World) :
    Calls Try.prog 17 #[.slice a 0 cap, .int .i64 0, .bool es] w fun e w' => AEnd es [] 0 e ∧ w' = w := by
  go_enter Try.func17, Try.ntmps17
  go_wp2_with fail
  refine (after_zero a cap 0 _).mono ?_
  rintro e w' ⟨rfl, hw⟩
  obtain rfl := hw.symm
  go_wp2
  refine bodyPost_ret (results_tmp4 rfl _ _ _) rfl ?_
  exact ⟨.inl ⟨rfl, rfl⟩, rfl⟩
end Go.Proofs.Qxb6601954a
