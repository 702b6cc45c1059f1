import Derived.Test.Qxb6601954aPlain
namespace Go.Proofs.Qxb6601954a

/-- the number that k digits from place s on write -/
def vt (zs : List Int) (s : Nat) : Nat → Int
  | 0 => 0
  | k + 1 => vt zs s k * 10 + (zs.getD (s + k) 0 - 48)
def cnt (zs : List Int) (s : Nat) : Nat := run isDig zs s
def num (zs : List Int) (s : Nat) : Int := vt zs s (cnt zs s)
/-- the greatest magnitude -/
def lim (neg : Bool) : Int := if neg then 9223372036854775808 else 9223372036854775807
def negAt (zs : List Int) (q : Nat) : Bool := decide (q < zs.length) && (zs.getD q 0 == 45)
def stAt (zs : List Int) (q : Nat) : Nat := if negAt zs q then q + 1 else q
def okAt (zs : List Int) (q : Nat) : Bool :=
  decide (num zs (stAt zs q) ≤ lim (negAt zs q)) && (cnt zs (stAt zs q) != 0) && !(decide (1 < cnt zs (stAt zs q)) && (zs.getD (stAt zs q) 0 == 48))
def valAt (zs : List Int) (q : Nat) : Int := if okAt zs q then (if negAt zs q then - num zs (stAt zs q) else num zs (stAt zs q)) else 0
def posAt (zs : List Int) (q : Nat) : Nat := if okAt zs q then stAt zs q + cnt zs (stAt zs q) else q

theorem isDig_iff (c : Int) : isDig c = true ↔ 48 ≤ c ∧ c ≤ 57 := by simp [isDig]
theorem isDig_not (c : Int) : isDig c = false ↔ ¬ (48 ≤ c ∧ c ≤ 57) := by rw [← isDig_iff]; simp

/-- within the run each is a digit -/
theorem run_mem (f : Int → Bool) (zs : List Int) (s k : Nat) (h : k < run f zs s) : s + k < zs.length ∧ f (zs.getD (s + k) 0) = true := by
  induction k generalizing s with
  | zero =>
    by_cases hl : s < zs.length
    · by_cases hf : f (zs.getD s 0) = true
      · exact ⟨hl, hf⟩
      · rw [run_no f zs s hl (by simpa using hf)] at h; omega
    · rw [run_end f zs s (by omega)] at h; omega
  | succ k ih =>
    by_cases hl : s < zs.length
    · by_cases hf : f (zs.getD s 0) = true
      · rw [run_yes f zs s hl hf] at h
        have := ih (s + 1) (by omega)
        rw [show s + (k + 1) = s + 1 + k by omega]
        exact this
      · rw [run_no f zs s hl (by simpa using hf)] at h; omega
    · rw [run_end f zs s (by omega)] at h; omega
theorem run_stop (f : Int → Bool) (zs : List Int) (s : Nat) (h : s + run f zs s < zs.length) : f (zs.getD (s + run f zs s) 0) = false := by
  generalize hn : run f zs s = n at h
  induction n generalizing s with
  | zero =>
    by_cases hf : f (zs.getD s 0) = true
    · rw [run_yes f zs s (by omega) hf] at hn; omega
    · simpa using hf
  | succ n ih =>
    have hl : s < zs.length := by omega
    by_cases hf : f (zs.getD s 0) = true
    · rw [run_yes f zs s hl hf] at hn
      have := ih (s + 1) (by omega) (by omega)
      rw [show s + (n + 1) = s + 1 + n by omega]
      exact this
    · rw [run_no f zs s hl (by simpa using hf)] at hn; omega
/-- a run of which k are known and the next is not -/
theorem run_is (f : Int → Bool) (zs : List Int) (s k : Nat) (h : k ≤ run f zs s) (hn : s + k < zs.length → f (zs.getD (s + k) 0) = false) : run f zs s = k := by
  by_cases hk : k = run f zs s
  · exact hk.symm
  · have := run_mem f zs s k (by omega)
    rw [hn this.1] at this
    cases this.2

theorem vt_nonneg (zs : List Int) (s k : Nat) (h : k ≤ cnt zs s) : 0 ≤ vt zs s k := by
  induction k with
  | zero => exact Int.le_refl _
  | succ k ih =>
    have h1 := ih (by omega)
    have h2 := (isDig_iff _).1 (run_mem isDig zs s k (by unfold cnt at h; omega)).2
    show 0 ≤ vt zs s k * 10 + _
    omega
theorem vt_mono (zs : List Int) (s k j : Nat) (h : k + j ≤ cnt zs s) : vt zs s k ≤ vt zs s (k + j) := by
  induction j with
  | zero => exact Int.le_refl _
  | succ j ih =>
    have h1 := ih (by omega)
    have h0 := vt_nonneg zs s (k + j) (by omega)
    have h2 := (isDig_iff _).1 (run_mem isDig zs s (k + j) (by unfold cnt at h; omega)).2
    show vt zs s k ≤ vt zs s (k + j) * 10 + (zs.getD (s + (k + j)) 0 - 48)
    omega
theorem vt_le_num (zs : List Int) (s k : Nat) (h : k ≤ cnt zs s) : vt zs s k ≤ num zs s := by
  have := vt_mono zs s k (cnt zs s - k) (by omega)
  rwa [show k + (cnt zs s - k) = cnt zs s by omega] at this

/-- one digit more -/
theorem vt_step (zs : List Int) (s m : Nat) (h : s ≤ m) : vt zs s (m + 1 - s) = vt zs s (m - s) * 10 + (zs.getD m 0 - 48) := by
  rw [show m + 1 - s = (m - s) + 1 by omega]
  show vt zs s (m - s) * 10 + (zs.getD (s + (m - s)) 0 - 48) = _
  rw [show s + (m - s) = m by omega]
theorem cnt_more (zs : List Int) (s m : Nat) (h : s ≤ m) (h1 : m - s ≤ cnt zs s) (hl : m < zs.length) (hd : 48 ≤ zs.getD m 0 ∧ zs.getD m 0 ≤ 57) : m + 1 - s ≤ cnt zs s := by
  by_cases e : m - s = cnt zs s
  · have := run_stop isDig zs s (by unfold cnt at e; omega)
    rw [show s + run isDig zs s = m by unfold cnt at e; omega, isDig_not] at this
    exact absurd hd this
  · omega
theorem cnt_is (zs : List Int) (s m : Nat) (h : s ≤ m) (h1 : m - s ≤ cnt zs s) (hn : m < zs.length → ¬ (48 ≤ zs.getD m 0 ∧ zs.getD m 0 ≤ 57)) : cnt zs s = m - s := by
  refine run_is isDig zs s (m - s) h1 fun hl => ?_
  rw [show s + (m - s) = m by omega] at hl ⊢
  exact (isDig_not _).2 (hn hl)
theorem ok_over (zs : List Int) (q k : Nat) (h : k ≤ cnt zs (stAt zs q)) (hv : lim (negAt zs q) < vt zs (stAt zs q) k) : okAt zs q = false := by
  have := vt_le_num zs (stAt zs q) k h
  unfold okAt
  rw [decide_eq_false (by omega)]
  rfl
theorem val_no (zs : List Int) (q : Nat) (h : okAt zs q = false) : valAt zs q = 0 ∧ posAt zs q = q := by simp [valAt, posAt, h]
theorem ok_none (zs : List Int) (q : Nat) (h : cnt zs (stAt zs q) = 0) : okAt zs q = false := by simp [okAt, h]
theorem ok_zero (zs : List Int) (q : Nat) (h : 1 < cnt zs (stAt zs q)) (h0 : zs.getD (stAt zs q) 0 = 48) : okAt zs q = false := by
  unfold okAt
  rw [decide_eq_true h, h0]
  simp
theorem ok_yes (zs : List Int) (q : Nat) (hv : num zs (stAt zs q) ≤ lim (negAt zs q)) (h : cnt zs (stAt zs q) ≠ 0) (h0 : ¬ (1 < cnt zs (stAt zs q) ∧ zs.getD (stAt zs q) 0 = 48)) : okAt zs q = true := by
  unfold okAt
  rw [decide_eq_true hv]
  by_cases a : 1 < cnt zs (stAt zs q)
  · have : zs.getD (stAt zs q) 0 ≠ 48 := fun e => h0 ⟨a, e⟩
    rw [decide_eq_true a, show (zs.getD (stAt zs q) 0 == 48) = false from beq_eq_false_iff_ne.2 this]
    simp [h]
  · rw [decide_eq_false a]
    simp [h]
theorem val_yes (zs : List Int) (q : Nat) (h : okAt zs q = true) : valAt zs q = (if negAt zs q then - num zs (stAt zs q) else num zs (stAt zs q)) ∧ posAt zs q = stAt zs q + cnt zs (stAt zs q) := by simp [valAt, posAt, h]

end Go.Proofs.Qxb6601954a
