namespace Go.Proofs.Qxb6601954a

/-- JSON's white space -/
def isSp (c : Int) : Bool := c == 32 || c == 9 || c == 10 || c == 13
def isDig (c : Int) : Bool := decide (48 ≤ c) && decide (c ≤ 57)

/-- how many from place p on answer yes in a row -/
def run (f : Int → Bool) (zs : List Int) (p : Nat) : Nat := ((zs.drop p).takeWhile f).length

theorem run_end (f : Int → Bool) (zs : List Int) (p : Nat) (h : zs.length ≤ p) : run f zs p = 0 := by
  simp [run, List.drop_of_length_le h]
theorem run_no (f : Int → Bool) (zs : List Int) (p : Nat) (h : p < zs.length) (hf : f (zs.getD p 0) = false) : run f zs p = 0 := by
  have e : zs.getD p 0 = zs[p] := by simp [List.getD, h]
  rw [e] at hf
  rw [run, List.drop_eq_getElem_cons h, List.takeWhile_cons, if_neg (by simp [hf])]
  rfl
theorem run_yes (f : Int → Bool) (zs : List Int) (p : Nat) (h : p < zs.length) (hf : f (zs.getD p 0) = true) : run f zs p = run f zs (p + 1) + 1 := by
  have e : zs.getD p 0 = zs[p] := by simp [List.getD, h]
  rw [e] at hf
  rw [run, List.drop_eq_getElem_cons h, List.takeWhile_cons, if_pos hf]
  rfl
theorem run_le (f : Int → Bool) (zs : List Int) (p : Nat) : run f zs p ≤ zs.length - p := by
  have := (List.takeWhile_prefix (p := f) (l := zs.drop p)).length_le
  simpa [run] using this

/-- the place behind the white space -/
def skip (zs : List Int) (p : Nat) : Nat := p + run isSp zs p
theorem skip_end (zs : List Int) (p : Nat) (h : zs.length ≤ p) : skip zs p = p := by simp [skip, run_end _ _ _ h]
theorem skip_no (zs : List Int) (p : Nat) (h : p < zs.length) (hf : isSp (zs.getD p 0) = false) : skip zs p = p := by simp [skip, run_no _ _ _ h hf]
theorem skip_yes (zs : List Int) (p : Nat) (h : p < zs.length) (hf : isSp (zs.getD p 0) = true) : skip zs p = skip zs (p + 1) := by
  rw [skip, run_yes _ _ _ h hf, skip]; omega
theorem skip_ge (zs : List Int) (p : Nat) : p ≤ skip zs p := by simp [skip]
theorem skip_le (zs : List Int) (p : Nat) (h : p ≤ zs.length) : skip zs p ≤ zs.length := by have := run_le isSp zs p; unfold skip; omega
end Go.Proofs.Qxb6601954a
