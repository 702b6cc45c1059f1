import Derived.Test.Qxb6601954aPlain4
namespace Go.Proofs.Qxb6601954a

/-- the greatest magnitude, as text -/
def ld (neg : Bool) : List Int := [57, 50, 50, 51, 51, 55, 50, 48, 51, 54, 56, 53, 52, 55, 55, 53, 56, 48, if neg then 56 else 55]
theorem ld_vt (neg : Bool) : vt (ld neg) 0 19 = lim neg := by cases neg <;> rfl
theorem ld_dig (neg : Bool) (j : Nat) (h : j < 19) : 48 ≤ (ld neg).getD j 0 ∧ (ld neg).getD j 0 ≤ 57 := by
  have all : ∀ n : Fin 19, 48 ≤ (ld neg).getD n.val 0 ∧ (ld neg).getD n.val 0 ≤ 57 := by cases neg <;> decide
  exact all ⟨j, h⟩

/-- two numbers of as many digits, alike up to place k, where the first has the greater digit -/
theorem vt_lex (zs ys : List Int) (s t n k : Nat) (hk : k < n) (hd : ∀ j, j < n → 48 ≤ zs.getD (s + j) 0 ∧ zs.getD (s + j) 0 ≤ 57) (he : ∀ j, j < n → 48 ≤ ys.getD (t + j) 0 ∧ ys.getD (t + j) 0 ≤ 57)
    (heq : ∀ j, j < k → zs.getD (s + j) 0 = ys.getD (t + j) 0) (hgt : ys.getD (t + k) 0 < zs.getD (s + k) 0) : vt ys t n < vt zs s n := by
  have same : ∀ i, i ≤ k → vt zs s i = vt ys t i := by
    intro i
    induction i with
    | zero => intro _; rfl
    | succ i ih =>
      intro hi
      show vt zs s i * 10 + (zs.getD (s + i) 0 - 48) = vt ys t i * 10 + (ys.getD (t + i) 0 - 48)
      rw [ih (by omega), heq i (by omega)]
  have more : ∀ i, k + 1 + i ≤ n → vt ys t (k + 1 + i) + 1 ≤ vt zs s (k + 1 + i) := by
    intro i
    induction i with
    | zero =>
      intro _
      show vt ys t k * 10 + (ys.getD (t + k) 0 - 48) + 1 ≤ vt zs s k * 10 + (zs.getD (s + k) 0 - 48)
      rw [same k (Nat.le_refl _)]
      omega
    | succ i ih =>
      intro hi
      have h1 := ih (by omega)
      have h2 := hd (k + 1 + i) (by omega)
      have h3 := he (k + 1 + i) (by omega)
      show vt ys t (k + 1 + i) * 10 + (ys.getD (t + (k + 1 + i)) 0 - 48) + 1 ≤ vt zs s (k + 1 + i) * 10 + (zs.getD (s + (k + 1 + i)) 0 - 48)
      omega
  have := more (n - (k + 1)) (by omega)
  rw [show k + 1 + (n - (k + 1)) = n by omega] at this
  omega
theorem vt_same (zs ys : List Int) (s t n : Nat) (heq : ∀ j, j < n → zs.getD (s + j) 0 = ys.getD (t + j) 0) : vt zs s n = vt ys t n := by
  induction n with
  | zero => rfl
  | succ n ih =>
    show vt zs s n * 10 + (zs.getD (s + n) 0 - 48) = vt ys t n * 10 + (ys.getD (t + n) 0 - 48)
    rw [ih (fun j hj => heq j (by omega)), heq n (by omega)]

theorem digs (zs : List Int) (s j : Nat) (h : j < cnt zs s) : 48 ≤ zs.getD (s + j) 0 ∧ zs.getD (s + j) 0 ≤ 57 := (isDig_iff _).1 (run_mem isDig zs s j h).2
theorem vt_lt (zs : List Int) (s k : Nat) (h : k ≤ cnt zs s) : vt zs s k < 10 ^ k := by
  induction k with
  | zero => show (0 : Int) < 1; omega
  | succ k ih =>
    have h1 := ih (by omega)
    have h2 := digs zs s k (by omega)
    show vt zs s k * 10 + (zs.getD (s + k) 0 - 48) < 10 ^ (k + 1)
    rw [Int.pow_succ]
    omega
theorem vt_ge (zs : List Int) (s k : Nat) (h : k + 1 ≤ cnt zs s) (h0 : zs.getD s 0 ≠ 48) : (10 : Int) ^ k ≤ vt zs s (k + 1) := by
  induction k with
  | zero =>
    have h2 := digs zs s 0 (by omega)
    rw [Nat.add_zero] at h2
    show (1 : Int) ≤ vt zs s 0 * 10 + (zs.getD (s + 0) 0 - 48)
    show (1 : Int) ≤ 0 * 10 + (zs.getD s 0 - 48)
    omega
  | succ k ih =>
    have h1 := ih (by omega)
    have h2 := digs zs s (k + 1) (by omega)
    show (10 : Int) ^ (k + 1) ≤ vt zs s (k + 1) * 10 + (zs.getD (s + (k + 1)) 0 - 48)
    rw [Int.pow_succ]
    omega
theorem lim_bound (neg : Bool) : (9223372036854775807 : Int) ≤ lim neg ∧ lim neg ≤ 9223372036854775808 := by
  cases neg <;> simp [lim]
/-- more than nineteen digits, no zero ahead: too great -/
theorem ok_long (zs : List Int) (q : Nat) (h : 19 < cnt zs (stAt zs q)) (h0 : zs.getD (stAt zs q) 0 ≠ 48) : okAt zs q = false := by
  refine ok_over zs q 20 (by omega) ?_
  have h1 := vt_ge zs (stAt zs q) 19 (by omega) h0
  have h2 := (lim_bound (negAt zs q)).2
  have h3 : (10 : Int) ^ 19 = 10000000000000000000 := rfl
  rw [h3] at h1
  have : vt zs (stAt zs q) 20 = vt zs (stAt zs q) (19 + 1) := rfl
  omega
theorem num_short (zs : List Int) (s : Nat) (neg : Bool) (h : cnt zs s ≤ 18) : num zs s ≤ lim neg := by
  have h1 := vt_lt zs s (cnt zs s) (Nat.le_refl _)
  have h2 := (lim_bound neg).1
  have h3 : (10 : Int) ^ (cnt zs s) ≤ 10 ^ 18 := by
    have := Int.ofNat_le.2 (Nat.pow_le_pow_right (n := 10) (by omega) h)
    rwa [Int.natCast_pow, Int.natCast_pow] at this
  have h4 : (10 : Int) ^ 18 = 1000000000000000000 := rfl
  unfold num
  omega
end Go.Proofs.Qxb6601954a
