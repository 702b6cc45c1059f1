import Derived.Test.Qxb6601954aPlain3
namespace Go.Proofs.Qxb6601954a

theorem run_ge (f : Int → Bool) (zs : List Int) (s N : Nat) (h : ∀ k, k < N → s + k < zs.length ∧ f (zs.getD (s + k) 0) = true) : N ≤ run f zs s := by
  induction N generalizing s with
  | zero => omega
  | succ N ih =>
    have h0 := h 0 (by omega)
    rw [run_yes f zs s h0.1 h0.2]
    have := ih (s + 1) (fun k hk => by
      have := h (k + 1) (by omega)
      rw [show s + 1 + k = s + (k + 1) by omega]
      exact this)
    omega

theorem vt_digits (zs : List Int) (s U N : Nat) (h0 : U / 10 ^ N = 0) (h : ∀ k, k < N → zs.getD (s + k) 0 = dg U (N - 1 - k)) (k : Nat) (hk : k ≤ N) : vt zs s k = ((U / 10 ^ (N - k) : Nat) : Int) := by
  induction k with
  | zero => simp [vt, h0]
  | succ k ih =>
    have h1 := ih (by omega)
    show vt zs s k * 10 + (zs.getD (s + k) 0 - 48) = _
    rw [h1, h k (by omega), dg]
    have e : N - k = (N - (k + 1)) + 1 := by omega
    have e2 : N - 1 - k = N - (k + 1) := by omega
    rw [e, e2, div_step]
    omega

theorem getD_app (a b : List Int) (j : Nat) : (a ++ b).getD j 0 = if j < a.length then a.getD j 0 else b.getD (j - a.length) 0 := by
  by_cases h : j < a.length
  · rw [if_pos h, List.getD, List.getElem?_append_left h, ← List.getD]
  · rw [if_neg h, List.getD, List.getElem?_append_right (by omega), ← List.getD]

/-- the text that the law reads back -/
def whole (neg : Bool) (U N : Nat) (Z : List Int) : List Int := [32, 10] ++ (txt neg U N ++ Z)

theorem txt_len (neg : Bool) (U N : Nat) : (txt neg U N).length = (if neg then 1 else 0) + N := by
  cases neg <;> simp [txt, td_len] <;> omega

theorem whole_at (neg : Bool) (U N : Nat) (Z : List Int) (k : Nat) (hk : k < N) : (whole neg U N Z).getD (2 + (if neg then 1 else 0) + k) 0 = dg U (N - 1 - k) := by
  rw [whole, getD_app, if_neg (by simp; omega), getD_app, if_pos (by rw [txt_len]; simp; omega), txt, getD_app, ← td_get U N N k hk]
  cases neg
  · rw [if_neg (by simp)]
    congr 1
    simp
  · rw [if_neg (by simp; omega)]
    congr 1
    simp
    omega

theorem whole_next (neg : Bool) (U N : Nat) (Z : List Int) : (whole neg U N Z).getD (2 + (if neg then 1 else 0) + N) 0 = Z.getD 0 0 := by
  rw [whole, getD_app, if_neg (by simp; omega), getD_app, if_neg (by rw [txt_len]; simp; omega), txt_len]
  congr 1
  simp
  omega
theorem whole_len (neg : Bool) (U N : Nat) (Z : List Int) : (whole neg U N Z).length = 2 + ((if neg then 1 else 0) + N) + Z.length := by
  rw [whole, List.length_append, List.length_append, txt_len]
  simp
  omega

theorem readback (neg : Bool) (U N : Nat) (Z : List Int) (hd : Digits U N) (hU : (U : Int) ≤ lim neg) (hZ : 0 < Z.length → ¬ (48 ≤ Z.getD 0 0 ∧ Z.getD 0 0 ≤ 57)) :
    skip (whole neg U N Z) 0 = 2 ∧ okAt (whole neg U N Z) 2 = true ∧ valAt (whole neg U N Z) 2 = (if neg then -(U : Int) else U) ∧ posAt (whole neg U N Z) 2 = 2 + (txt neg U N).length := by
  obtain ⟨hN1, hN2, hN0, hNz⟩ := hd
  have hlen := whole_len neg U N Z
  have hat := whole_at neg U N Z
  have hnext := whole_next neg U N Z
  have hw0 : (whole neg U N Z).getD 0 0 = 32 := rfl
  have hw1 : (whole neg U N Z).getD 1 0 = 10 := rfl
  have hw2 : neg = true → (whole neg U N Z).getD 2 0 = 45 := fun h => by subst h; rfl
  have hw2' : neg = false → (whole neg U N Z).getD 2 0 = dg U (N - 1) := fun h => by subst h; simpa using hat 0 (by omega)
  generalize hD : whole neg U N Z = D at *
  have hsp2 : isSp (D.getD 2 0) = false := by
    cases neg
    · rw [hw2' rfl]
      have := dg_bound U (N - 1)
      simp [isSp]
      omega
    · rw [hw2 rfl]; rfl
  have hskip : skip D 0 = 2 := by
    rw [skip_yes D 0 (by omega) (by rw [hw0]; rfl), skip_yes D 1 (by omega) (by rw [hw1]; rfl), skip_no D 2 (by omega) hsp2]
  have hng : negAt D 2 = neg := by
    unfold negAt
    rw [decide_eq_true (by omega)]
    cases neg
    · rw [hw2' rfl]
      have := dg_bound U (N - 1)
      simp
      omega
    · rw [hw2 rfl]; rfl
  have hst : stAt D 2 = 2 + (if neg then 1 else 0) := by
    unfold stAt
    rw [hng]
    cases neg <;> rfl
  have hge : N ≤ cnt D (2 + (if neg then 1 else 0)) := run_ge isDig D _ N (fun k hk => by
    rw [hat k hk, isDig_iff]
    exact ⟨by omega, dg_bound U _⟩)
  have hcnt : cnt D (2 + (if neg then 1 else 0)) = N := run_is isDig D _ N hge (fun hl => by
    rw [hnext, isDig_not]
    exact hZ (by omega))
  have hnum : num D (2 + (if neg then 1 else 0)) = U := by
    rw [num, hcnt, vt_digits D _ U N hN0 hat N (Nat.le_refl _), Nat.sub_self, Nat.pow_zero, Nat.div_one]
  have hok : okAt D 2 = true := by
    refine ok_yes D 2 ?_ ?_ ?_
    · rw [hst, hng, hnum]; exact hU
    · rw [hst, hcnt]; omega
    · rw [hst, hcnt]
      rintro ⟨h1, h2⟩
      have h3 := hat 0 (by omega)
      rw [Nat.add_zero, Nat.sub_zero] at h3
      rw [h3, dg] at h2
      rcases hNz with h4 | h4
      · omega
      · have h5 := div_step U (N - 1)
        rw [show N - 1 + 1 = N by omega, hN0] at h5
        omega
  obtain ⟨hv, hp⟩ := val_yes D 2 hok
  refine ⟨hskip, hok, ?_, ?_⟩
  · rw [hv, hng, hst, hnum]
  · rw [hp, hst, hcnt, txt_len]; omega
end Go.Proofs.Qxb6601954a
