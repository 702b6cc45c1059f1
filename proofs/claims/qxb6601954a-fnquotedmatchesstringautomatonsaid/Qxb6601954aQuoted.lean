import Derived.Test.Qxb6601954aEsc
namespace Go.Proofs.Qxb6601954a
open Go.ChangeShapes Go.WideShapes Go.ChangeAt Go.RowKit

/-- where the string that opens at q closes -/
def qres (es : Bool) (zs : List Int) (q : Nat) : Option Nat := if q < zs.length ∧ zs.getD q 0 = 34 then qs es zs (q + 1) else none

/-- what 'quoted' answers, and where it leaves the Scanner -/
def QEnd (es : Bool) (zs : List Int) (q sb b off len cap : Nat) (w : World) (e : Ending) (w' : World) : Prop :=
  Below sb w w' ∧
  ((qres es zs q = none ∧ e = .returned (.tuple #[.slice none 0 0, .bool false]) ∧ Sc w' sb (some ⟨b, off, none⟩) len cap q) ∨
   ∃ c, qres es zs q = some c ∧ e = .returned (.tuple #[.slice (some ⟨b, off + (q + 1), none⟩) (c - (q + 1)) (cap - (q + 1)), .bool true]) ∧ Sc w' sb (some ⟨b, off, none⟩) len cap ((c + 1 : Nat) : Int))

set_option maxHeartbeats 1600000 in
/-- no string opens behind the white space -/
theorem quoted_none (es : Bool) (sb b off len cap p q : Nat) (zs : List Int) (w : World) (hl : zs.length = len) (hm : len ≤ 8388608) (hb : b < sb)
    (hs : Sc w sb (some ⟨b, off, none⟩) len cap p) (hc : ∀ j, j < len → w.cell? ⟨b, off + j, none⟩ = some (.int .u8 (zs.getD j 0)))
    (HQ : Hid (skip zs p = q)) (hql : q ≤ len) (hn : q < len → zs.getD q 0 ≠ 34) :
    Calls Try.prog 27 #[.pointer (some ⟨sb, 0, none⟩), .bool es] w fun e w' => QEnd es zs q sb b off len cap w e w' := by
  have hres : Hid (qres es zs q = none) := by
    show qres es zs q = none
    rw [qres, if_neg]
    rintro ⟨h1, h2⟩
    exact hn (by omega) h2
  by_cases hq : q < len
  · have hne := hn hq
    clear hn
    go_enter Try.func27, Try.ntmps27
    go_wp2_with fail
    refine (skip_some sb b off len cap p zs w hl (by omega) hb hs hc).mono ?_
    rintro e w1 ⟨rfl, hs1, hb1⟩
    rw [HQ.out] at hs1
    have hcx : w1.cell? ⟨b, off + q, none⟩ = some (.int .u8 (zs.getD q 0)) := (hb1.cell (by exact hb)).trans (hc _ hq)
    have hd := hs1.data
    have hpo := hs1.pos
    have HS := hid hs1
    have hli : (q : Int) < (len : Int) := by omega
    have heq : ((q : Int) == (len : Int)) = false := beq_eq_false_iff_ne.2 (by omega)
    have hnb : (zs.getD q 0 != 34) = true := bne_iff_ne.2 hne
    clear hs1 hs hc hne
    generalize zs.getD q 0 = c at *
    go_wp2
    go_quiet (fail)
    go_wp2
    go_ret2
    exact ⟨below_drewN' hb1 _, .inl ⟨hres.out, rfl, HS.out.drewN _⟩⟩
  · have hqe : q = len := by omega
    clear hn
    go_enter Try.func27, Try.ntmps27
    go_wp2_with fail
    refine (skip_some sb b off len cap p zs w hl (by omega) hb hs hc).mono ?_
    rintro e w1 ⟨rfl, hs1, hb1⟩
    rw [HQ.out] at hs1
    have hd := hs1.data
    have hpo := hs1.pos
    have HS := hid hs1
    have heq : ((q : Int) == (len : Int)) = true := by simp; omega
    clear hs1 hs hc hqe
    go_wp2
    go_quiet (fail)
    go_wp2
    go_ret2
    exact ⟨below_drewN' hb1 _, .inl ⟨hres.out, rfl, HS.out.drewN _⟩⟩

set_option maxHeartbeats 3200000 in
/-- a string opens at q -/
theorem quoted_open (es : Bool) (sb b off len cap p q : Nat) (zs : List Int) (w : World) (hl : zs.length = len) (hm : len ≤ 8388608) (hcap : len ≤ cap) (hb : b < sb)
    (hz : ∀ j, 0 ≤ zs.getD j 0 ∧ zs.getD j 0 ≤ 255) (hs : Sc w sb (some ⟨b, off, none⟩) len cap p) (hc : ∀ j, j < len → w.cell? ⟨b, off + j, none⟩ = some (.int .u8 (zs.getD j 0)))
    (HQ : Hid (skip zs p = q)) (hq : q < len) (hn : zs.getD q 0 = 34) :
    Calls Try.prog 27 #[.pointer (some ⟨sb, 0, none⟩), .bool es] w fun e w' => QEnd es zs q sb b off len cap w e w' := by
  have hres : Hid (qres es zs q = qs es zs (q + 1)) := by
    show qres es zs q = _
    rw [qres, if_pos ⟨by omega, hn⟩]
  go_enter Try.func27, Try.ntmps27
  go_wp2_with fail
  refine (skip_some sb b off len cap p zs w hl (by omega) hb hs hc).mono ?_
  rintro e w1 ⟨rfl, hs1, hb1⟩
  rw [HQ.out] at hs1
  have hcx : w1.cell? ⟨b, off + q, none⟩ = some (.int .u8 34) := by rw [← hn]; exact (hb1.cell (by exact hb)).trans (hc _ hq)
  have hd := hs1.data
  have hpo := hs1.pos
  have hfr := hs1.free
  have HS := hid hs1
  have hli : (q : Int) < (len : Int) := by omega
  have heq : ((q : Int) == (len : Int)) = false := beq_eq_false_iff_ne.2 (by omega)
  clear hs1 hs hn
  go_wp2
  go_quiet (fail)
  go_wp2
  go_loop [6] (fun p => ∃ m : Nat, q + 1 ≤ m ∧ m ≤ len ∧ p = .int .i64 m ∧ qs es zs m = qs es zs (q + 1)) (fun p => len - (intOf p).toNat)
  case atStart => exact ⟨q + 1, Nat.le_refl _, by omega, by go_num, rfl⟩
  case round =>
    obtain ⟨m, hqm, hml, rfl, hqs⟩ := hrel
    have HQS := hid hqs
    clear hqs hcx
    by_cases hlt : m < len
    · have hcm : w1.cell? ⟨b, off + m, none⟩ = some (.int .u8 (zs.getD m 0)) := (hb1.cell (by exact hb)).trans (hc _ hlt)
      have hlm : (m : Int) < (len : Int) := by omega
      have hzm := hz m
      by_cases h34 : zs.getD m 0 = 34
      · have HR : Hid (qres es zs q = some m) := by
          show qres es zs q = some m
          rw [hres.out, ← HQS.out, qs_quote es zs m (by omega) h34]
        rw [h34] at hcm
        clear h34 hzm hc hz
        go_wp2
        go_quiet (fail)
        go_wp2
        go_ret2
        exact ⟨step_below hb1 _ _, .inr ⟨m, HR.out, rfl, step_sc HS.out _ _⟩⟩
      · by_cases h32 : zs.getD m 0 < 32
        · have HR : Hid (qres es zs q = none) := by
            show qres es zs q = none
            rw [hres.out, ← HQS.out, qs_ctl es zs m (by omega) h32]
          have e34 := beq_eq_false_iff_ne.2 h34
          clear hc hz h34
          generalize zs.getD m 0 = c at *
          go_wp2
          go_ret2
          exact ⟨below_drewN' hb1 _, .inl ⟨HR.out, rfl, HS.out.drewN _⟩⟩
        · by_cases h92 : zs.getD m 0 = 92
          · rw [h92] at hcm
            have hdl : (zs.drop m).length = len - m := by rw [List.length_drop, hl]
            have HC32 : Hid (∀ wx : World, (∀ a, wx.cell? a = w1.cell? a) → Calls Try.prog 32 #[.slice (some ⟨b, off + m, none⟩) (len - m) (cap - m)] wx fun e w' => e = .returned (.int .i64 (esc zs m)) ∧ w' = wx) := by
              intro wx hx
              refine esc_any b (off + m) (len - m) (cap - m) (zs.drop m) wx hdl (by omega) (by omega) (by omega) (fun j => by rw [getD_drop]; exact hz _) (fun j hj => ?_)
              rw [hx, getD_drop, Nat.add_assoc]
              exact (hb1.cell (by exact hb)).trans (hc _ (by omega))
            have HLE := hid (esc_le zs m (by omega))
            by_cases hes : es = false ∨ esc zs m = 0
            · have HR : Hid (qres es zs q = none) := by
                show qres es zs q = none
                rw [hres.out, ← HQS.out, qs_no es zs m (by omega) h92 hes]
              clear hc hz h34 h92 hzm hdl HLE
              generalize esc zs m = n at *
              cases es with
              | false =>
                go_wp2_with (go_at_call 32; refine (HC32.out _ (by intro a; simp)).mono ?_; rintro e w' ⟨rfl, rfl⟩)
                go_ret2
                exact ⟨below_drewN' hb1 _, .inl ⟨HR.out, rfl, HS.out.drewN _⟩⟩
              | true =>
                obtain rfl : n = 0 := by simpa using hes
                go_wp2_with (go_at_call 32; refine (HC32.out _ (by intro a; simp)).mono ?_; rintro e w' ⟨rfl, rfl⟩)
                go_ret2
                exact ⟨below_drewN' hb1 _, .inl ⟨HR.out, rfl, HS.out.drewN _⟩⟩
            · have hes1 : es = true := by cases es <;> simp_all
              have hes2 : esc zs m ≠ 0 := fun h => hes (.inr h)
              subst hes1
              have HN : Hid (qs true zs (m + esc zs m) = qs true zs (q + 1)) := by
                show qs true zs (m + esc zs m) = qs true zs (q + 1)
                rw [← HQS.out, qs_esc zs m (by omega) h92 hes2]
              have hle : m + esc zs m ≤ len := by have := HLE.out; omega
              have hn0 : ((esc zs m : Int) == 0) = false := beq_eq_false_iff_ne.2 (by omega)
              clear hc hz h34 h92 hzm hdl HLE hes
              generalize esc zs m = n at *
              go_wp2_with (go_at_call 32; refine (HC32.out _ (by intro a; simp)).mono ?_; rintro e w' ⟨rfl, rfl⟩)
              go_round
              case rel => exact ⟨m + n, by omega, by omega, by go_num, HN.out⟩
              case measure => simp [intOf]; omega
          · have HN : Hid (qs es zs (m + 1) = qs es zs (q + 1)) := by
              show qs es zs (m + 1) = qs es zs (q + 1)
              rw [← HQS.out, qs_step es zs m (by omega) h34 (by omega) h92]
            have e34 := beq_eq_false_iff_ne.2 h34
            have e92 := beq_eq_false_iff_ne.2 h92
            clear hc hz h34 h92
            generalize zs.getD m 0 = c at *
            go_wp2
            go_round
            case rel => exact ⟨m + 1, by omega, by omega, by go_num, HN.out⟩
            case measure => simp [intOf]; omega
    · have HR : Hid (qres es zs q = none) := by
        show qres es zs q = none
        rw [hres.out, ← HQS.out, qs_end es zs m (by omega)]
      clear hc hz
      go_wp2
      go_ret2
      exact ⟨below_drewN' hb1 _, .inl ⟨HR.out, rfl, HS.out.drewN _⟩⟩
end Go.Proofs.Qxb6601954a
