import Derived.Test.Qxb6601954aSkip
import Derived.Test.Qxb6601954aPlain2
namespace Go.Proofs.Qxb6601954a
open Go.ChangeShapes Go.WideShapes Go.ChangeAt Go.RowKit

theorem neg_yes (zs : List Int) (q : Nat) (h : q < zs.length) (h1 : zs.getD q 0 = 45) : negAt zs q = true ∧ stAt zs q = q + 1 := by
  have : negAt zs q = true := by rw [negAt, h1, decide_eq_true h]; rfl
  exact ⟨this, by rw [stAt, if_pos this]⟩
theorem neg_no (zs : List Int) (q : Nat) (h : q < zs.length → zs.getD q 0 ≠ 45) : negAt zs q = false ∧ stAt zs q = q := by
  have : negAt zs q = false := by
    rw [negAt]
    by_cases a : q < zs.length
    · rw [beq_eq_false_iff_ne.2 (h a), Bool.and_false]
    · rw [decide_eq_false a, Bool.false_and]
  exact ⟨this, by rw [stAt, if_neg (by rw [this]; simp)]⟩

theorem neg_wrap (n : Int) (h0 : 0 ≤ n) (h1 : n ≤ 9223372036854775808) : wrap64 (IntKind.u64.wrap (-n)) = -n := by
  have e : IntKind.u64.wrap (-n) = (-n) % 18446744073709551616 := rfl
  rw [e]
  unfold wrap64
  omega

/-- what Int answers, and where it leaves the Scanner -/
def IntEnd (zs : List Int) (q : Nat) (sb : Nat) (a : Option Addr) (len cap : Nat) (w : World) (e : Ending) (w' : World) : Prop :=
  e = .returned (.tuple #[.int .i64 (valAt zs q), .bool (okAt zs q)]) ∧ Sc w' sb a len cap (posAt zs q) ∧ Below sb w w'
theorem end_no {zs : List Int} {q sb : Nat} {a : Option Addr} {len cap : Nat} {w w' : World} (hok : okAt zs q = false) (hs : Sc w' sb a len cap q) (hb : Below sb w w') :
    IntEnd zs q sb a len cap w (.returned (.tuple #[.int .i64 0, .bool false])) w' := by
  obtain ⟨h1, h2⟩ := val_no zs q hok
  refine ⟨by rw [h1, hok], ?_, hb⟩
  rw [h2]
  exact hs
theorem end_yes {zs : List Int} {q sb : Nat} {a : Option Addr} {len cap : Nat} {w w' : World} {v p : Int} (hok : okAt zs q = true) (hv : v = (if negAt zs q then - num zs (stAt zs q) else num zs (stAt zs q)))
    (hp : p = ((stAt zs q + cnt zs (stAt zs q) : Nat) : Int)) (hs : Sc w' sb a len cap q) (hb : Below sb w w') :
    IntEnd zs q sb a len cap w (.returned (.tuple #[.int .i64 v, .bool true])) (w'.setCell ⟨sb, 1, none⟩ (.int .i64 p)) := by
  obtain ⟨h1, h2⟩ := val_yes zs q hok
  refine ⟨by rw [h1, hok, hv], ?_, hb.setCell (Nat.le_refl _) _⟩
  rw [h2, ← hp]
  exact step_sc hs p 0

set_option maxHeartbeats 1600000 in
theorem int_neg (sb b off len cap p q : Nat) (zs : List Int) (w : World) (hl : zs.length = len) (hm : len ≤ 8388608) (hb : b < sb)
    (hz : ∀ j, 0 ≤ zs.getD j 0 ∧ zs.getD j 0 ≤ 255) (hs : Sc w sb (some ⟨b, off, none⟩) len cap p) (hc : ∀ j, j < len → w.cell? ⟨b, off + j, none⟩ = some (.int .u8 (zs.getD j 0)))
    (HQ : Hid (skip zs p = q)) (hq : q < len) (hn : zs.getD q 0 = 45) :
    Calls Try.prog 25 #[.pointer (some ⟨sb, 0, none⟩)] w fun e w' => IntEnd zs q sb (some ⟨b, off, none⟩) len cap w e w' := by
  go_enter Try.func25, Try.ntmps25
  go_wp2_with fail
  refine (skip_some sb b off len cap p zs w hl (by omega) hb hs hc).mono ?_
  rintro e w1 ⟨rfl, hs1, hb1⟩
  rw [HQ.out] at hs1
  obtain ⟨hng, hst⟩ := neg_yes zs q (by omega) hn
  have hcx : w1.cell? ⟨b, off + q, none⟩ = some (.int .u8 45) := by rw [← hn]; exact (hb1.cell (by exact hb)).trans (hc _ hq)
  have hd := hs1.data
  have hpo := hs1.pos
  have hfr := hs1.free
  have HS := hid hs1
  have hli : (q : Int) < (len : Int) := by omega
  have HST := hid hst
  have HNG := hid hng
  clear hn hs1 hs hst hng
  go_wp2
  go_loop [4, 8] (fun p n => ∃ m : Nat, q + 1 ≤ m ∧ m - (q + 1) ≤ cnt zs (q + 1) ∧ m ≤ len ∧ p = .int .i64 m ∧ n = .int .u64 (vt zs (q + 1) (m - (q + 1))) ∧ vt zs (q + 1) (m - (q + 1)) ≤ 9223372036854775808) (fun p _ => len - (intOf p).toNat)
  case atStart => exact ⟨q + 1, Nat.le_refl _, by omega, by omega, by go_num, by simp [vt], by simp [vt]⟩
  case round =>
    obtain ⟨m, hqm, hcn, hml, rfl, rfl, hv⟩ := hrel
    have hv0 := vt_nonneg zs (q + 1) (m - (q + 1)) hcn
    by_cases hdg : m < len ∧ 48 ≤ zs.getD m 0 ∧ zs.getD m 0 ≤ 57
    · obtain ⟨hlt, hd1, hd2⟩ := hdg
      have hcy : w1.cell? ⟨b, off + m, none⟩ = some (.int .u8 (zs.getD m 0)) := (hb1.cell (by exact hb)).trans (hc _ hlt)
      have hli2 : (m : Int) < (len : Int) := by omega
      have hzm := hz m
      have HVS := hid (vt_step zs (q + 1) m hqm)
      have HCM := hid (cnt_more zs (q + 1) m hqm hcn (by omega) ⟨hd1, hd2⟩)
      clear hc hz hcx
      generalize zs.getD m 0 = c at *
      generalize vt zs (q + 1) (m - (q + 1)) = n at *
      go_wp2
      · have hov : (9223372036854775808 - (c - 48)) / 10 < n := by assumption
        go_ret2
        refine end_no (ok_over zs q (m + 1 - (q + 1)) ?_ ?_) HS.out hb1
        · rw [HST.out]; exact HCM.out
        · rw [HST.out, HNG.out, HVS.out]
          show (if true = true then (9223372036854775808 : Int) else 9223372036854775807) < _
          rw [if_pos rfl]
          omega
      · have hov : n ≤ (9223372036854775808 - (c - 48)) / 10 := by assumption
        go_round
        case rel => exact ⟨m + 1, by omega, HCM.out, by omega, by go_num, by rw [HVS.out], by rw [HVS.out]; omega⟩
        case measure => simp [intOf]; omega
    · have HC := hid (cnt_is zs (q + 1) m hqm hcn (fun h1 h2 => hdg ⟨by omega, h2⟩))
      have HNUM : Hid (num zs (q + 1) = vt zs (q + 1) (m - (q + 1))) := by show num zs (q + 1) = _; rw [num, HC.out]
      have hz' := hz
      have hcy : m < len → w1.cell? ⟨b, off + m, none⟩ = some (.int .u8 (zs.getD m 0)) := fun hlt => (hb1.cell (by exact hb)).trans (hc _ hlt)
      have hcs : q + 1 < len → w1.cell? ⟨b, off + (q + 1), none⟩ = some (.int .u8 (zs.getD (q + 1) 0)) := fun hlt => (hb1.cell (by exact hb)).trans (hc _ hlt)
      have HS0 : Hid (zs.getD (q + 1) 0 = zs.getD (stAt zs q) 0) := by show zs.getD (q + 1) 0 = _; rw [HST.out]
      have hout : m < len → zs.getD m 0 < 48 ∨ 57 < zs.getD m 0 := fun hlt => by
        by_cases h1 : zs.getD m 0 < 48
        · exact .inl h1
        · exact .inr (Int.not_le.1 fun h2 => hdg ⟨hlt, by omega, h2⟩)
      clear hc hz hcx hdg
      have hex : len ≤ m ∨ (m < len ∧ zs.getD m 0 < 48) ∨ (m < len ∧ 57 < zs.getD m 0) := by
        by_cases h1 : m < len
        · rcases hout h1 with h | h
          · exact .inr (.inl ⟨h1, h⟩)
          · exact .inr (.inr ⟨h1, h⟩)
        · exact .inl (by omega)
      have HNV : Hid (num zs (q + 1) ≤ lim (negAt zs q)) := by
        show num zs (q + 1) ≤ lim (negAt zs q)
        rw [HNUM.out, HNG.out]
        exact hv
      by_cases hm0 : m ≤ q + 1
      · clear hcs hout
        have hok : Hid (okAt zs q = false) := ok_none zs q (by rw [HST.out, HC.out]; omega)
        generalize vt zs (q + 1) (m - (q + 1)) = n at *
        rcases hex with h1 | ⟨h1, h2⟩ | ⟨h1, h2⟩
        · first
          | (exfalso; omega)
          | (clear hcy
             go_wp2
             go_ret2
             exact end_no hok.out HS.out hb1)
        · have hcz := hcy h1
          clear hcy
          generalize zs.getD m 0 = c at *
          go_wp2
          go_ret2
          exact end_no hok.out HS.out hb1
        · have hcz := hcy h1
          clear hcy
          generalize zs.getD m 0 = c at *
          go_wp2
          go_ret2
          exact end_no hok.out HS.out hb1
      · have hsl : q + 1 < len := by omega
        have hcs' := hcs hsl
        clear hcs hout
        have HNE : Hid (cnt zs (q + 1) ≠ 0) := by show cnt zs (q + 1) ≠ 0; rw [HC.out]; omega
        have HPO : Hid ((m : Int) = ((stAt zs q + cnt zs (stAt zs q) : Nat) : Int)) := by show (m : Int) = _; rw [HST.out, HC.out]; omega
        have hzs := hz' (q + 1)
        by_cases hm1 : m ≤ q + 1 + 1
        · have hok : Hid (okAt zs q = true) := ok_yes zs q (by rw [HST.out]; exact HNV.out) (by rw [HST.out]; exact HNE.out) (by rw [HST.out, HC.out]; omega)
          clear hcs'
          generalize vt zs (q + 1) (m - (q + 1)) = n at *
          rcases hex with h1 | ⟨h1, h2⟩ | ⟨h1, h2⟩
          · clear hcy
            go_wp2
            go_ret2
            exact end_yes hok.out (by rw [HNG.out, if_pos rfl, HST.out, HNUM.out]; exact neg_wrap _ hv0 hv) HPO.out HS.out hb1
          · have hcz := hcy h1
            clear hcy
            generalize zs.getD m 0 = c at *
            go_wp2
            go_ret2
            exact end_yes hok.out (by rw [HNG.out, if_pos rfl, HST.out, HNUM.out]; exact neg_wrap _ hv0 hv) HPO.out HS.out hb1
          · have hcz := hcy h1
            clear hcy
            generalize zs.getD m 0 = c at *
            go_wp2
            go_ret2
            exact end_yes hok.out (by rw [HNG.out, if_pos rfl, HST.out, HNUM.out]; exact neg_wrap _ hv0 hv) HPO.out HS.out hb1
        · by_cases h48 : zs.getD (q + 1) 0 = 48
          · have hok : Hid (okAt zs q = false) := ok_zero zs q (by rw [HST.out, HC.out]; omega) (by rw [HST.out]; exact h48)
            rw [h48] at hcs'
            clear h48
            generalize vt zs (q + 1) (m - (q + 1)) = n at *
            rcases hex with h1 | ⟨h1, h2⟩ | ⟨h1, h2⟩
            · clear hcy
              go_wp2
              go_ret2
              exact end_no hok.out HS.out hb1
            · have hcz := hcy h1
              clear hcy
              generalize zs.getD m 0 = c at *
              go_wp2
              go_ret2
              exact end_no hok.out HS.out hb1
            · have hcz := hcy h1
              clear hcy
              generalize zs.getD m 0 = c at *
              go_wp2
              go_ret2
              exact end_no hok.out HS.out hb1
          · have hok : Hid (okAt zs q = true) := ok_yes zs q (by rw [HST.out]; exact HNV.out) (by rw [HST.out]; exact HNE.out) (by rw [HST.out]; exact fun h => h48 h.2)
            have h48' : (zs.getD (q + 1) 0 == 48) = false := beq_eq_false_iff_ne.2 h48
            clear h48 HS0
            generalize zs.getD (q + 1) 0 = z at *
            generalize vt zs (q + 1) (m - (q + 1)) = n at *
            rcases hex with h1 | ⟨h1, h2⟩ | ⟨h1, h2⟩
            · clear hcy
              go_wp2
              go_ret2
              exact end_yes hok.out (by rw [HNG.out, if_pos rfl, HST.out, HNUM.out]; exact neg_wrap _ hv0 hv) HPO.out HS.out hb1
            · have hcz := hcy h1
              clear hcy
              generalize zs.getD m 0 = c at *
              go_wp2
              go_ret2
              exact end_yes hok.out (by rw [HNG.out, if_pos rfl, HST.out, HNUM.out]; exact neg_wrap _ hv0 hv) HPO.out HS.out hb1
            · have hcz := hcy h1
              clear hcy
              generalize zs.getD m 0 = c at *
              go_wp2
              go_ret2
              exact end_yes hok.out (by rw [HNG.out, if_pos rfl, HST.out, HNUM.out]; exact neg_wrap _ hv0 hv) HPO.out HS.out hb1

set_option maxHeartbeats 1600000 in
theorem int_pos (sb b off len cap p q : Nat) (zs : List Int) (w : World) (hl : zs.length = len) (hm : len ≤ 8388608) (hb : b < sb)
    (hz : ∀ j, 0 ≤ zs.getD j 0 ∧ zs.getD j 0 ≤ 255) (hs : Sc w sb (some ⟨b, off, none⟩) len cap p) (hc : ∀ j, j < len → w.cell? ⟨b, off + j, none⟩ = some (.int .u8 (zs.getD j 0)))
    (HQ : Hid (skip zs p = q)) (hq : q < len) (hn : zs.getD q 0 ≠ 45) :
    Calls Try.prog 25 #[.pointer (some ⟨sb, 0, none⟩)] w fun e w' => IntEnd zs q sb (some ⟨b, off, none⟩) len cap w e w' := by
  go_enter Try.func25, Try.ntmps25
  go_wp2_with fail
  refine (skip_some sb b off len cap p zs w hl (by omega) hb hs hc).mono ?_
  rintro e w1 ⟨rfl, hs1, hb1⟩
  rw [HQ.out] at hs1
  obtain ⟨hng, hst⟩ := neg_no zs q (fun _ => hn)
  have hcx : w1.cell? ⟨b, off + q, none⟩ = some (.int .u8 (zs.getD q 0)) := (hb1.cell (by exact hb)).trans (hc _ hq)
  have hc0 : (zs.getD q 0 == 45) = false := beq_eq_false_iff_ne.2 hn
  generalize zs.getD q 0 = c0 at hcx hc0
  have hd := hs1.data
  have hpo := hs1.pos
  have hfr := hs1.free
  have HS := hid hs1
  have hli : (q : Int) < (len : Int) := by omega
  have HST := hid hst
  have HNG := hid hng
  clear hn hs1 hs hst hng
  go_wp2
  go_loop [4, 8] (fun p n => ∃ m : Nat, q ≤ m ∧ m - q ≤ cnt zs q ∧ m ≤ len ∧ p = .int .i64 m ∧ n = .int .u64 (vt zs q (m - q)) ∧ vt zs q (m - q) ≤ 9223372036854775807) (fun p _ => len - (intOf p).toNat)
  case atStart => exact ⟨q, Nat.le_refl _, by omega, by omega, by go_num, by simp [vt], by simp [vt]⟩
  case round =>
    obtain ⟨m, hqm, hcn, hml, rfl, rfl, hv⟩ := hrel
    have hv0 := vt_nonneg zs q (m - q) hcn
    by_cases hdg : m < len ∧ 48 ≤ zs.getD m 0 ∧ zs.getD m 0 ≤ 57
    · obtain ⟨hlt, hd1, hd2⟩ := hdg
      have hcy : w1.cell? ⟨b, off + m, none⟩ = some (.int .u8 (zs.getD m 0)) := (hb1.cell (by exact hb)).trans (hc _ hlt)
      have hli2 : (m : Int) < (len : Int) := by omega
      have hzm := hz m
      have HVS := hid (vt_step zs q m hqm)
      have HCM := hid (cnt_more zs q m hqm hcn (by omega) ⟨hd1, hd2⟩)
      clear hc hz hcx
      generalize zs.getD m 0 = c at *
      generalize vt zs q (m - q) = n at *
      go_wp2
      · have hov : (9223372036854775807 - (c - 48)) / 10 < n := by assumption
        go_ret2
        refine end_no (ok_over zs q (m + 1 - q) ?_ ?_) HS.out hb1
        · rw [HST.out]; exact HCM.out
        · rw [HST.out, HNG.out, HVS.out]
          show (if false = true then (9223372036854775808 : Int) else 9223372036854775807) < _
          rw [if_neg (by simp)]
          omega
      · have hov : n ≤ (9223372036854775807 - (c - 48)) / 10 := by assumption
        go_round
        case rel => exact ⟨m + 1, by omega, HCM.out, by omega, by go_num, by rw [HVS.out], by rw [HVS.out]; omega⟩
        case measure => simp [intOf]; omega
    · have HC := hid (cnt_is zs q m hqm hcn (fun h1 h2 => hdg ⟨by omega, h2⟩))
      have HNUM : Hid (num zs q = vt zs q (m - q)) := by show num zs q = _; rw [num, HC.out]
      have hz' := hz
      have hcy : m < len → w1.cell? ⟨b, off + m, none⟩ = some (.int .u8 (zs.getD m 0)) := fun hlt => (hb1.cell (by exact hb)).trans (hc _ hlt)
      have hcs : q < len → w1.cell? ⟨b, off + q, none⟩ = some (.int .u8 (zs.getD q 0)) := fun hlt => (hb1.cell (by exact hb)).trans (hc _ hlt)
      have HS0 : Hid (zs.getD q 0 = zs.getD (stAt zs q) 0) := by show zs.getD q 0 = _; rw [HST.out]
      have hout : m < len → zs.getD m 0 < 48 ∨ 57 < zs.getD m 0 := fun hlt => by
        by_cases h1 : zs.getD m 0 < 48
        · exact .inl h1
        · exact .inr (Int.not_le.1 fun h2 => hdg ⟨hlt, by omega, h2⟩)
      clear hc hz hcx hdg
      have hex : len ≤ m ∨ (m < len ∧ zs.getD m 0 < 48) ∨ (m < len ∧ 57 < zs.getD m 0) := by
        by_cases h1 : m < len
        · rcases hout h1 with h | h
          · exact .inr (.inl ⟨h1, h⟩)
          · exact .inr (.inr ⟨h1, h⟩)
        · exact .inl (by omega)
      have HNV : Hid (num zs q ≤ lim (negAt zs q)) := by
        show num zs q ≤ lim (negAt zs q)
        rw [HNUM.out, HNG.out]
        exact hv
      by_cases hm0 : m ≤ q
      · clear hcs hout
        have hok : Hid (okAt zs q = false) := ok_none zs q (by rw [HST.out, HC.out]; omega)
        generalize vt zs q (m - q) = n at *
        rcases hex with h1 | ⟨h1, h2⟩ | ⟨h1, h2⟩
        · first
          | (exfalso; omega)
          | (clear hcy
             go_wp2
             go_ret2
             exact end_no hok.out HS.out hb1)
        · have hcz := hcy h1
          clear hcy
          generalize zs.getD m 0 = c at *
          go_wp2
          go_ret2
          exact end_no hok.out HS.out hb1
        · have hcz := hcy h1
          clear hcy
          generalize zs.getD m 0 = c at *
          go_wp2
          go_ret2
          exact end_no hok.out HS.out hb1
      · have hsl : q < len := by omega
        have hcs' := hcs hsl
        clear hcs hout
        have HNE : Hid (cnt zs q ≠ 0) := by show cnt zs q ≠ 0; rw [HC.out]; omega
        have HPO : Hid ((m : Int) = ((stAt zs q + cnt zs (stAt zs q) : Nat) : Int)) := by show (m : Int) = _; rw [HST.out, HC.out]; omega
        have hzs := hz' q
        by_cases hm1 : m ≤ q + 1
        · have hok : Hid (okAt zs q = true) := ok_yes zs q (by rw [HST.out]; exact HNV.out) (by rw [HST.out]; exact HNE.out) (by rw [HST.out, HC.out]; omega)
          clear hcs'
          generalize vt zs q (m - q) = n at *
          rcases hex with h1 | ⟨h1, h2⟩ | ⟨h1, h2⟩
          · clear hcy
            go_wp2
            go_ret2
            exact end_yes hok.out (by rw [HNG.out, if_neg (by simp), HST.out, HNUM.out]) HPO.out HS.out hb1
          · have hcz := hcy h1
            clear hcy
            generalize zs.getD m 0 = c at *
            go_wp2
            go_ret2
            exact end_yes hok.out (by rw [HNG.out, if_neg (by simp), HST.out, HNUM.out]) HPO.out HS.out hb1
          · have hcz := hcy h1
            clear hcy
            generalize zs.getD m 0 = c at *
            go_wp2
            go_ret2
            exact end_yes hok.out (by rw [HNG.out, if_neg (by simp), HST.out, HNUM.out]) HPO.out HS.out hb1
        · by_cases h48 : zs.getD q 0 = 48
          · have hok : Hid (okAt zs q = false) := ok_zero zs q (by rw [HST.out, HC.out]; omega) (by rw [HST.out]; exact h48)
            rw [h48] at hcs'
            clear h48
            generalize vt zs q (m - q) = n at *
            rcases hex with h1 | ⟨h1, h2⟩ | ⟨h1, h2⟩
            · clear hcy
              go_wp2
              go_ret2
              exact end_no hok.out HS.out hb1
            · have hcz := hcy h1
              clear hcy
              generalize zs.getD m 0 = c at *
              go_wp2
              go_ret2
              exact end_no hok.out HS.out hb1
            · have hcz := hcy h1
              clear hcy
              generalize zs.getD m 0 = c at *
              go_wp2
              go_ret2
              exact end_no hok.out HS.out hb1
          · have hok : Hid (okAt zs q = true) := ok_yes zs q (by rw [HST.out]; exact HNV.out) (by rw [HST.out]; exact HNE.out) (by rw [HST.out]; exact fun h => h48 h.2)
            have h48' : (zs.getD q 0 == 48) = false := beq_eq_false_iff_ne.2 h48
            clear h48 HS0
            generalize zs.getD q 0 = z at *
            generalize vt zs q (m - q) = n at *
            rcases hex with h1 | ⟨h1, h2⟩ | ⟨h1, h2⟩
            · clear hcy
              go_wp2
              go_ret2
              exact end_yes hok.out (by rw [HNG.out, if_neg (by simp), HST.out, HNUM.out]) HPO.out HS.out hb1
            · have hcz := hcy h1
              clear hcy
              generalize zs.getD m 0 = c at *
              go_wp2
              go_ret2
              exact end_yes hok.out (by rw [HNG.out, if_neg (by simp), HST.out, HNUM.out]) HPO.out HS.out hb1
            · have hcz := hcy h1
              clear hcy
              generalize zs.getD m 0 = c at *
              go_wp2
              go_ret2
              exact end_yes hok.out (by rw [HNG.out, if_neg (by simp), HST.out, HNUM.out]) HPO.out HS.out hb1

end Go.Proofs.Qxb6601954a
