import Derived.Test.Qxb6601954aPlain4
namespace Go.Proofs.Qxb6601954a

def short (c : Int) : Bool := c == 34 || c == 92 || c == 47 || c == 98 || c == 102 || c == 110 || c == 114 || c == 116
def hexd (c : Int) : Bool := (decide (48 ≤ c) && decide (c ≤ 57)) || (decide (97 ≤ c) && decide (c ≤ 102)) || (decide (65 ≤ c) && decide (c ≤ 70))
/-- how many of the four behind '\u' are hex digits, in a row -/
def hex4 (ys : List Int) : Bool := hexd (ys.getD 2 0) && (hexd (ys.getD 3 0) && (hexd (ys.getD 4 0) && hexd (ys.getD 5 0)))
/-- the length of the escape sequence at the head of ys -/
def escL (ys : List Int) : Nat :=
  if ys.length < 2 then 0 else if short (ys.getD 1 0) then 2 else if ys.getD 1 0 == 117 then (if ys.length < 6 then 0 else if hex4 ys then 6 else 0) else 0
/-- the same at place p of zs -/
def esc (zs : List Int) (p : Nat) : Nat := escL (zs.drop p)

theorem getD_drop (zs : List Int) (p j : Nat) : (zs.drop p).getD j 0 = zs.getD (p + j) 0 := by
  rw [List.getD, List.getElem?_drop, ← List.getD]

theorem escL_cases (ys : List Int) : escL ys = 0 ∨ (escL ys = 2 ∧ 2 ≤ ys.length) ∨ (escL ys = 6 ∧ 6 ≤ ys.length) := by
  unfold escL
  by_cases h1 : ys.length < 2
  · rw [if_pos h1]; exact .inl rfl
  · rw [if_neg h1]
    by_cases h2 : short (ys.getD 1 0) = true
    · rw [if_pos h2]; exact .inr (.inl ⟨rfl, by omega⟩)
    · rw [if_neg h2]
      by_cases h3 : (ys.getD 1 0 == 117) = true
      · rw [if_pos h3]
        by_cases h4 : ys.length < 6
        · rw [if_pos h4]; exact .inl rfl
        · rw [if_neg h4]
          by_cases h5 : hex4 ys = true
          · rw [if_pos h5]; exact .inr (.inr ⟨rfl, by omega⟩)
          · rw [if_neg h5]; exact .inl rfl
      · rw [if_neg h3]; exact .inl rfl

/-- the scan from place p on: the place of the closing quote -/
def qscan (es : Bool) (zs : List Int) : Nat → Nat → Option Nat
  | 0, _ => none
  | f + 1, p =>
    if zs.length ≤ p then none
    else if zs.getD p 0 = 34 then some p
    else if zs.getD p 0 < 32 then none
    else if zs.getD p 0 = 92 then (if es = false ∨ esc zs p = 0 then none else qscan es zs f (p + esc zs p))
    else qscan es zs f (p + 1)
def qs (es : Bool) (zs : List Int) (p : Nat) : Option Nat := qscan es zs (zs.length - p) p

theorem qscan_fuel (es : Bool) (zs : List Int) (f : Nat) : ∀ g p, zs.length - p ≤ f → f ≤ g → qscan es zs g p = qscan es zs f p := by
  induction f with
  | zero =>
    intro g p h _
    cases g with
    | zero => rfl
    | succ g =>
      show qscan es zs (g + 1) p = none
      unfold qscan
      rw [if_pos (by omega)]
  | succ f ih =>
    intro g p h hg
    obtain ⟨g, rfl⟩ : ∃ g', g = g' + 1 := ⟨g - 1, by omega⟩
    by_cases h1 : zs.length ≤ p
    · rw [qscan, if_pos h1, qscan, if_pos h1]
    · rw [qscan, qscan, if_neg h1, if_neg h1]
      by_cases h2 : zs.getD p 0 = 34
      · rw [if_pos h2, if_pos h2]
      · rw [if_neg h2, if_neg h2]
        by_cases h3 : zs.getD p 0 < 32
        · rw [if_pos h3, if_pos h3]
        · rw [if_neg h3, if_neg h3]
          by_cases h4 : zs.getD p 0 = 92
          · rw [if_pos h4, if_pos h4]
            by_cases h5 : es = false ∨ esc zs p = 0
            · rw [if_pos h5, if_pos h5]
            · rw [if_neg h5, if_neg h5]
              refine ih g _ ?_ (by omega)
              have : esc zs p ≠ 0 := fun h => h5 (.inr h)
              omega
          · rw [if_neg h4, if_neg h4]
            exact ih g _ (by omega) (by omega)

theorem qs_unfold (es : Bool) (zs : List Int) (p : Nat) (h : p < zs.length) : qs es zs p =
    if zs.getD p 0 = 34 then some p
    else if zs.getD p 0 < 32 then none
    else if zs.getD p 0 = 92 then (if es = false ∨ esc zs p = 0 then none else qs es zs (p + esc zs p))
    else qs es zs (p + 1) := by
  rw [qs, show zs.length - p = (zs.length - p - 1) + 1 by omega, qscan, if_neg (by omega)]
  by_cases h5 : es = false ∨ esc zs p = 0
  · rw [if_pos h5, if_pos h5, qs, show zs.length - p - 1 = zs.length - (p + 1) by omega]
  · rw [if_neg h5, if_neg h5, qs, qs, show zs.length - p - 1 = zs.length - (p + 1) by omega]
    have : esc zs p ≠ 0 := fun h => h5 (.inr h)
    rw [qscan_fuel es zs (zs.length - (p + esc zs p)) (zs.length - (p + 1)) (p + esc zs p) (Nat.le_refl _) (by omega)]
theorem qs_end (es : Bool) (zs : List Int) (p : Nat) (h : zs.length ≤ p) : qs es zs p = none := by
  rw [qs, show zs.length - p = 0 by omega, qscan]
theorem qs_quote (es : Bool) (zs : List Int) (p : Nat) (h : p < zs.length) (hc : zs.getD p 0 = 34) : qs es zs p = some p := by
  rw [qs_unfold es zs p h, if_pos hc]
theorem qs_ctl (es : Bool) (zs : List Int) (p : Nat) (h : p < zs.length) (hc : zs.getD p 0 < 32) : qs es zs p = none := by
  rw [qs_unfold es zs p h, if_neg (by omega), if_pos hc]
theorem qs_no (es : Bool) (zs : List Int) (p : Nat) (h : p < zs.length) (hc : zs.getD p 0 = 92) (he : es = false ∨ esc zs p = 0) : qs es zs p = none := by
  rw [qs_unfold es zs p h, if_neg (by omega), if_neg (by omega), if_pos hc, if_pos he]
theorem qs_esc (zs : List Int) (p : Nat) (h : p < zs.length) (hc : zs.getD p 0 = 92) (he : esc zs p ≠ 0) : qs true zs p = qs true zs (p + esc zs p) := by
  rw [qs_unfold true zs p h, if_neg (by omega), if_neg (by omega), if_pos hc, if_neg (by simp [he])]
theorem qs_step (es : Bool) (zs : List Int) (p : Nat) (h : p < zs.length) (h1 : zs.getD p 0 ≠ 34) (h2 : 32 ≤ zs.getD p 0) (h3 : zs.getD p 0 ≠ 92) : qs es zs p = qs es zs (p + 1) := by
  rw [qs_unfold es zs p h, if_neg h1, if_neg (by omega), if_neg h3]
theorem esc_le (zs : List Int) (p : Nat) (h : p < zs.length) : p + esc zs p ≤ zs.length := by
  have := escL_cases (zs.drop p)
  rw [List.length_drop] at this
  unfold esc
  omega
theorem qs_bound (es : Bool) (zs : List Int) (f : Nat) : ∀ p c, qscan es zs f p = some c → p ≤ c ∧ c < zs.length := by
  induction f with
  | zero => intro p c h; rw [qscan] at h; cases h
  | succ f ih =>
    intro p c h
    rw [qscan] at h
    by_cases h1 : zs.length ≤ p
    · rw [if_pos h1] at h; cases h
    · rw [if_neg h1] at h
      by_cases h2 : zs.getD p 0 = 34
      · rw [if_pos h2] at h
        obtain rfl := Option.some.inj h
        omega
      · rw [if_neg h2] at h
        by_cases h3 : zs.getD p 0 < 32
        · rw [if_pos h3] at h; cases h
        · rw [if_neg h3] at h
          by_cases h4 : zs.getD p 0 = 92
          · rw [if_pos h4] at h
            by_cases h5 : es = false ∨ esc zs p = 0
            · rw [if_pos h5] at h; cases h
            · rw [if_neg h5] at h
              have := ih _ _ h
              omega
          · rw [if_neg h4] at h
            have := ih _ _ h
            omega
end Go.Proofs.Qxb6601954a
