import Derived.Test.Qxb6601954aPlain2
namespace Go.Proofs.Qxb6601954a

/-- the digit of place j, as a byte -/
def dg (U j : Nat) : Int := 48 + ((U / 10 ^ j % 10 : Nat) : Int)
/-- the first i of N digits, the greatest place first -/
def td (U N : Nat) : Nat → List Int
  | 0 => []
  | i + 1 => td U N i ++ [dg U (N - 1 - i)]
theorem td_len (U N i : Nat) : (td U N i).length = i := by
  induction i with
  | zero => rfl
  | succ i ih => simp [td, ih]
theorem td_get (U N i j : Nat) (h : j < i) : (td U N i).getD j 0 = dg U (N - 1 - j) := by
  induction i with
  | zero => omega
  | succ i ih =>
    by_cases e : j < i
    · have h1 : j < (td U N i).length := by rw [td_len]; exact e
      have := ih e
      rw [List.getD, td, List.getElem?_append_left h1, ← List.getD]
      exact this
    · have e2 : j = i := by omega
      subst e2
      rw [List.getD, td, List.getElem?_append_right (by rw [td_len]; omega), td_len]
      simp
theorem dg_bound (U j : Nat) : 48 ≤ dg U j ∧ dg U j ≤ 57 := by
  unfold dg
  have := Nat.mod_lt (U / 10 ^ j) (show 0 < 10 by omega)
  omega
/-- does N count U's digits? -/
def Digits (U N : Nat) : Prop := 1 ≤ N ∧ N ≤ 19 ∧ U / 10 ^ N = 0 ∧ (N = 1 ∨ U / 10 ^ (N - 1) ≠ 0)
/-- the text of v -/
def txt (neg : Bool) (U N : Nat) : List Int := (if neg then [45] else []) ++ td U N N
theorem pow_bound (U k : Nat) (hU : U ≤ 9223372036854775808) (h : U / 10 ^ k ≠ 0) : k ≤ 18 := by
  by_cases hk : k ≤ 18
  · exact hk
  · exfalso
    have h1 : 10 ^ 19 ≤ 10 ^ k := Nat.pow_le_pow_right (by omega) (by omega)
    exact h (Nat.div_eq_of_lt (by omega))
theorem div_step (U k : Nat) : U / 10 ^ (k + 1) = U / 10 ^ k / 10 := by rw [Nat.pow_succ, Nat.div_div_eq_div_mul]
end Go.Proofs.Qxb6601954a
