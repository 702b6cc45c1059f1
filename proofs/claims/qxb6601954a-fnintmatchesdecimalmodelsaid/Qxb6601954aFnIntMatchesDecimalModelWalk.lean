import Derived.Test.Qxb6601954aModel
namespace Go.Proofs.Qxb6601954a.fnIntMatchesDecimalModel
open Go.ChangeShapes Go.WideShapes Go.ChangeAt Go.RowKit

set_option maxHeartbeats 800000 in
/-- behind the white space there is nothing -/
theorem im_end (b off len cap p q : Nat) (zs : List Int) (w : World) (hl : zs.length = len) (hm : len ≤ 8388608)
    (hc : ∀ j, j < len → w.cell? ⟨b, off + j, none⟩ = some (.int .u8 (zs.getD j 0)))
    (HQ : Hid (skip zs p = q)) (hq : len ≤ q) :
    Calls Try.prog 11 #[.slice (some ⟨b, off, none⟩) len cap, .int .i64 p] w fun e w' => IMEnd zs q e ∧ w' = w := by
  have HAF : Hid (Calls Try.prog 21 #[.slice (some ⟨b, off, none⟩) len cap, .int .i64 p] w fun e w' => e = .returned (.int .i64 q) ∧ w' = w) := by
    have := after_some b off len cap p zs w hl hm hc
    rw [HQ.out] at this
    exact this
  have hst := (neg_no zs q (fun h => by omega)).2
  have hok : Hid (okAt zs q = false) := ok_none zs q (by rw [hst]; exact run_end _ _ _ (by omega))
  have hli : decide ((q : Int) < (len : Int)) = false := decide_eq_false (by omega)
  clear hst hc
  go_enter Try.func11, Try.ntmps11
  go_wp2_with fail
  refine HAF.out.mono ?_
  rintro e w' ⟨rfl, hw⟩
  obtain rfl := hw.symm
  clear HAF
  go_wp2
  refine wp_loop_rounds 1 ?_
  rw [rounds_succ]
  go_wp2
  go_ret3
  exact ⟨im_no hok.out, rfl⟩

set_option maxHeartbeats 800000 in
/-- no data -/
theorem im_zero (a : Option Addr) (cap p : Nat) (w : World) (hp : p ≤ 9223372036854775807) :
    Calls Try.prog 11 #[.slice a 0 cap, .int .i64 p] w fun e w' => IMEnd [] p e ∧ w' = w := by
  have hst := (neg_no [] p (fun h => by simp at h)).2
  have hok : Hid (okAt [] p = false) := ok_none [] p (by rw [hst]; exact run_end _ _ _ (by simp))
  have hli : decide ((p : Int) < (0 : Int)) = false := decide_eq_false (by omega)
  clear hst
  go_enter Try.func11, Try.ntmps11
  go_wp2_with fail
  refine (after_zero a cap p _).mono ?_
  rintro e w' ⟨rfl, hw⟩
  obtain rfl := hw.symm
  go_wp2
  refine wp_loop_rounds 1 ?_
  rw [rounds_succ]
  go_wp2
  go_ret3
  exact ⟨im_no hok.out, rfl⟩

theorem im_any (a : Option Addr) (len cap p : Nat) (zs : List Int) (w : World) (h : Row w a len zs) (hcap : len ≤ cap) (hm : len ≤ 8388608) (hp : p ≤ 9223372036854775807) :
    Calls Try.prog 11 #[.slice a len cap, .int .i64 p] w fun e w' => IMEnd zs (skip zs p) e ∧ w' = w := by
  obtain ⟨hl, hz, h3⟩ := h
  rcases h3 with rfl | ⟨b, off, rfl, hlt, hc⟩
  · have e := List.eq_nil_of_length_eq_zero hl
    subst e
    rw [skip_end [] p (by simp)]
    exact im_zero a cap p w hp
  · by_cases hq : skip zs p < len
    · by_cases hn : zs.getD (skip zs p) 0 = 45
      · exact im_neg b off len cap p _ zs w hl hm hcap hc (hid rfl) hq hn
      · exact im_pos b off len cap p _ zs w hl hm hcap hc (hid rfl) hq hn
    · exact im_end b off len cap p _ zs w hl hm hc (hid rfl) (by omega)

theorem zz8_any (a : Option Addr) (len cap : Nat) (p : Int) (w : World) (hm : len ≤ maxLen) :
    Calls Try.prog 8 #[.slice a len cap, .int .i64 p] w fun e w' => RetBool e ∧ w' = w := by
  unfold maxLen at hm
  go_enter Try.func8, Try.ntmps8
  go_wp2
  all_goals (go_ret; exact ⟨⟨_, rfl⟩, rfl⟩)

set_option maxHeartbeats 1600000 in
theorem law (a : Option Addr) (len cap : Nat) (zs : List Int) (p : Int) (w : World) (h : Row w a len zs) (hn : a = none → len = 0 ∧ cap = 0) (hm : len ≤ maxLen) (hp : p ≤ 9223372036854775807) :
    Calls Try.prog 3 #[.slice a len cap, .int .i64 p] w fun e w' => e = .returned (.bool true) ∧ Below w.heap.size w w' := by
  have hm' := hm
  unfold maxLen at hm'
  have hz := h.2.1
  have HL := hid h.1
  go_enter Try.func3, Try.ntmps3
  go_wp2_with fail
  refine (zz8_any a len cap p _ hm).mono ?_
  rintro e w' ⟨⟨r, rfl⟩, hw⟩
  obtain rfl := hw.symm
  cases r
  · go_wp2
    go_ret
    exact ⟨rfl, Below.refl _ _⟩
  by_cases t1 : 1048576 < len
  · go_wp2
    go_ret
    exact ⟨rfl, Below.refl _ _⟩
  by_cases t2 : p < 0
  · go_wp2
    go_ret
    exact ⟨rfl, Below.refl _ _⟩
  obtain ⟨P, rfl⟩ : ∃ P : Nat, p = P := ⟨p.toNat, by omega⟩
  go_wp2_with fail
  refine (clone_any a len cap zs _ h hn (by omega)).mono ?_
  rintro e w1 ⟨hcl, hb1⟩
  obtain ⟨a1, c1, rfl, hrow, hcp⟩ : ∃ a1 c1, e = .returned (.slice a1 zs.length c1) ∧ Row w1 a1 zs.length zs ∧ zs.length ≤ c1 := by
    rcases hcl with ⟨rfl, a1, c1, rfl, _⟩ | ⟨_, rfl, hg, hc⟩
    · exact ⟨a1, c1, rfl, row_nil _ _, Nat.zero_le _⟩
    · exact ⟨_, _, rfl, row_clone hz hg hc, Nat.le_refl _⟩
  have hlen : zs.length ≤ 1048576 := by rw [HL.out]; omega
  clear hcl h hz
  go_wp2_with fail
  refine (zint_any zs.length c1 P a1 zs _ hrow (by omega)).mono ?_
  rintro e w2 ⟨rfl, hb2⟩
  have hrow2 := hrow.below hb2
  have hB2 : Below w.heap.size w w2 := hb1.trans (hb2.mono hb1.size)
  go_wp2_with fail
  refine (im_any a1 zs.length c1 P zs _ hrow2 hcp (by omega) (by omega)).mono ?_
  rintro e w3 ⟨he, hw⟩
  obtain rfl := hw.symm
  unfold IMEnd at he
  subst he
  clear hrow hrow2 hb1 hb2
  generalize valAt zs (skip zs P) = v at *
  generalize okAt zs (skip zs P) = ok at *
  generalize posAt zs (skip zs P) = po at *
  go_wp2
  go_ret
  exact ⟨rfl, hB2⟩
end Go.Proofs.Qxb6601954a.fnIntMatchesDecimalModel
