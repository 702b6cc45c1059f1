import Derived.Test.Qxb6601954aPlainQ
namespace Go.Proofs.Qxb6601954a

/-- the automaton, byte by byte -/
def autS (es : Bool) (zs : List Int) : Nat → Nat → Nat → Option Nat
  | 0, _, _ => none
  | f + 1, i, st =>
    if st = 0 then
      (if zs.getD i 0 = 34 then some i
       else if zs.getD i 0 < 32 then none
       else if zs.getD i 0 = 92 then (if es = false then none else autS es zs f (i + 1) 1)
       else autS es zs f (i + 1) 0)
    else if st = 1 then
      (if short (zs.getD i 0) = true then autS es zs f (i + 1) 0
       else if zs.getD i 0 = 117 then autS es zs f (i + 1) 2
       else none)
    else
      (if hexd (zs.getD i 0) = true then autS es zs f (i + 1) (if st = 5 then 0 else st + 1) else none)
def aut (es : Bool) (zs : List Int) (i st : Nat) : Option Nat := autS es zs (zs.length - i) i st

theorem aut_end (es : Bool) (zs : List Int) (i st : Nat) (h : zs.length ≤ i) : aut es zs i st = none := by
  rw [aut, show zs.length - i = 0 by omega, autS]
theorem aut_unfold (es : Bool) (zs : List Int) (i st : Nat) (h : i < zs.length) : aut es zs i st =
    if st = 0 then
      (if zs.getD i 0 = 34 then some i
       else if zs.getD i 0 < 32 then none
       else if zs.getD i 0 = 92 then (if es = false then none else aut es zs (i + 1) 1)
       else aut es zs (i + 1) 0)
    else if st = 1 then
      (if short (zs.getD i 0) = true then aut es zs (i + 1) 0
       else if zs.getD i 0 = 117 then aut es zs (i + 1) 2
       else none)
    else
      (if hexd (zs.getD i 0) = true then aut es zs (i + 1) (if st = 5 then 0 else st + 1) else none) := by
  have e : zs.length - i = (zs.length - (i + 1)) + 1 := by omega
  simp only [aut]
  rw [e, autS]
theorem aut0_quote (es : Bool) (zs : List Int) (i : Nat) (h : i < zs.length) (hc : zs.getD i 0 = 34) : aut es zs i 0 = some i := by
  rw [aut_unfold es zs i 0 h, if_pos rfl, if_pos hc]
theorem aut0_ctl (es : Bool) (zs : List Int) (i : Nat) (h : i < zs.length) (hc : zs.getD i 0 < 32) : aut es zs i 0 = none := by
  rw [aut_unfold es zs i 0 h, if_pos rfl, if_neg (by omega), if_pos hc]
theorem aut0_no (zs : List Int) (i : Nat) (h : i < zs.length) (hc : zs.getD i 0 = 92) : aut false zs i 0 = none := by
  rw [aut_unfold false zs i 0 h, if_pos rfl, if_neg (by omega), if_neg (by omega), if_pos hc, if_pos rfl]
theorem aut0_bs (zs : List Int) (i : Nat) (h : i < zs.length) (hc : zs.getD i 0 = 92) : aut true zs i 0 = aut true zs (i + 1) 1 := by
  rw [aut_unfold true zs i 0 h, if_pos rfl, if_neg (by omega), if_neg (by omega), if_pos hc, if_neg (by simp)]
theorem aut0_step (es : Bool) (zs : List Int) (i : Nat) (h : i < zs.length) (h1 : zs.getD i 0 ≠ 34) (h2 : 32 ≤ zs.getD i 0) (h3 : zs.getD i 0 ≠ 92) : aut es zs i 0 = aut es zs (i + 1) 0 := by
  rw [aut_unfold es zs i 0 h, if_pos rfl, if_neg h1, if_neg (by omega), if_neg h3]
theorem aut1_short (es : Bool) (zs : List Int) (i : Nat) (h : i < zs.length) (hc : short (zs.getD i 0) = true) : aut es zs i 1 = aut es zs (i + 1) 0 := by
  rw [aut_unfold es zs i 1 h, if_neg (by omega), if_pos rfl, if_pos hc]
theorem aut1_u (es : Bool) (zs : List Int) (i : Nat) (h : i < zs.length) (hs : short (zs.getD i 0) = false) (hc : zs.getD i 0 = 117) : aut es zs i 1 = aut es zs (i + 1) 2 := by
  rw [aut_unfold es zs i 1 h, if_neg (by omega), if_pos rfl, if_neg (by rw [hs]; simp), if_pos hc]
theorem aut1_no (es : Bool) (zs : List Int) (i : Nat) (h : i < zs.length) (hs : short (zs.getD i 0) = false) (hc : zs.getD i 0 ≠ 117) : aut es zs i 1 = none := by
  rw [aut_unfold es zs i 1 h, if_neg (by omega), if_pos rfl, if_neg (by rw [hs]; simp), if_neg hc]
theorem autx_no (es : Bool) (zs : List Int) (i st : Nat) (h : i < zs.length) (h1 : 2 ≤ st) (hc : hexd (zs.getD i 0) = false) : aut es zs i st = none := by
  rw [aut_unfold es zs i st h, if_neg (by omega), if_neg (by omega), if_neg (by rw [hc]; simp)]
theorem autx_yes (es : Bool) (zs : List Int) (i st : Nat) (h : i < zs.length) (h1 : 2 ≤ st) (hc : hexd (zs.getD i 0) = true) : aut es zs i st = aut es zs (i + 1) (if st = 5 then 0 else st + 1) := by
  rw [aut_unfold es zs i st h, if_neg (by omega), if_neg (by omega), if_pos hc]

/-- the four hex digits -/
theorem aut_hex (es : Bool) (zs : List Int) (i : Nat) : aut es zs i 2 = if i + 4 ≤ zs.length ∧ (hexd (zs.getD i 0) && (hexd (zs.getD (i + 1) 0) && (hexd (zs.getD (i + 2) 0) && hexd (zs.getD (i + 3) 0)))) = true then aut es zs (i + 4) 0 else none := by
  have one : ∀ (j st : Nat), 2 ≤ st → (¬ j < zs.length ∨ hexd (zs.getD j 0) = false) → aut es zs j st = none := by
    intro j st h1 h
    by_cases hj : j < zs.length
    · rcases h with h | h
      · exact absurd hj h
      · exact autx_no es zs j st hj h1 h
    · exact aut_end es zs j st (by omega)
  by_cases a0 : i < zs.length ∧ hexd (zs.getD i 0) = true
  · rw [autx_yes es zs i 2 a0.1 (by omega) a0.2, if_neg (by omega)]
    by_cases a1 : i + 1 < zs.length ∧ hexd (zs.getD (i + 1) 0) = true
    · rw [autx_yes es zs (i + 1) (2 + 1) a1.1 (by omega) a1.2, if_neg (by omega)]
      by_cases a2 : i + 2 < zs.length ∧ hexd (zs.getD (i + 2) 0) = true
      · rw [autx_yes es zs (i + 1 + 1) (2 + 1 + 1) a2.1 (by omega) a2.2, if_neg (by omega)]
        by_cases a3 : i + 3 < zs.length ∧ hexd (zs.getD (i + 3) 0) = true
        · rw [autx_yes es zs (i + 1 + 1 + 1) (2 + 1 + 1 + 1) a3.1 (by omega) a3.2, if_pos rfl, if_pos ⟨by omega, by rw [a0.2, a1.2, a2.2, a3.2]; rfl⟩]
        · rw [one (i + 1 + 1 + 1) (2 + 1 + 1 + 1) (by omega) (by by_cases h : i + 3 < zs.length; · right; simpa using fun e => a3 ⟨h, e⟩
                                                                 · exact .inl h), if_neg]
          rintro ⟨h1, h2⟩
          simp only [Bool.and_eq_true] at h2
          exact a3 ⟨by omega, h2.2.2.2⟩
      · rw [one (i + 1 + 1) (2 + 1 + 1) (by omega) (by by_cases h : i + 2 < zs.length; · right; simpa using fun e => a2 ⟨h, e⟩
                                                       · exact .inl h), if_neg]
        rintro ⟨h1, h2⟩
        simp only [Bool.and_eq_true] at h2
        exact a2 ⟨by omega, h2.2.2.1⟩
    · rw [one (i + 1) (2 + 1) (by omega) (by by_cases h : i + 1 < zs.length; · right; simpa using fun e => a1 ⟨h, e⟩
                                             · exact .inl h), if_neg]
      rintro ⟨h1, h2⟩
      simp only [Bool.and_eq_true] at h2
      exact a1 ⟨by omega, h2.2.1⟩
  · rw [one i 2 (by omega) (by by_cases h : i < zs.length; · right; simpa using fun e => a0 ⟨h, e⟩
                               · exact .inl h), if_neg]
    rintro ⟨h1, h2⟩
    simp only [Bool.and_eq_true] at h2
    exact a0 ⟨by omega, h2.1⟩

/-- THE AUTOMATON FINDS WHAT THE SCAN FINDS -/
theorem aut_qs (es : Bool) (zs : List Int) : ∀ (n i : Nat), zs.length - i ≤ n → aut es zs i 0 = qs es zs i := by
  intro n
  induction n with
  | zero =>
    intro i h
    rw [aut_end es zs i 0 (by omega), qs_end es zs i (by omega)]
  | succ n ih =>
    intro i h
    by_cases hi : i < zs.length
    · by_cases h1 : zs.getD i 0 = 34
      · rw [aut0_quote es zs i hi h1, qs_quote es zs i hi h1]
      · by_cases h2 : zs.getD i 0 < 32
        · rw [aut0_ctl es zs i hi h2, qs_ctl es zs i hi h2]
        · by_cases h3 : zs.getD i 0 = 92
          · cases es with
            | false => rw [aut0_no zs i hi h3, qs_no false zs i hi h3 (.inl rfl)]
            | true =>
              rw [aut0_bs zs i hi h3]
              have hdl : (zs.drop i).length = zs.length - i := List.length_drop
              by_cases h4 : i + 1 < zs.length
              · by_cases h5 : short (zs.getD (i + 1) 0) = true
                · have he : esc zs i = 2 := by rw [esc, escL, if_neg (by omega), if_pos (by rw [getD_drop]; exact h5)]
                  rw [aut1_short true zs (i + 1) h4 h5, qs_esc zs i hi h3 (by omega), he]
                  exact ih (i + 2) (by omega)
                · have h5' : short (zs.getD (i + 1) 0) = false := by simpa using h5
                  by_cases h6 : zs.getD (i + 1) 0 = 117
                  · rw [aut1_u true zs (i + 1) h4 h5' h6, aut_hex]
                    by_cases h7 : i + 6 ≤ zs.length ∧ hex4 (zs.drop i) = true
                    · have he : esc zs i = 6 := by
                        rw [esc, escL, if_neg (by omega), if_neg (by rw [getD_drop]; exact h5), if_pos (by rw [getD_drop, h6]; rfl), if_neg (by omega), if_pos h7.2]
                      have hx := h7.2
                      rw [hex4, getD_drop, getD_drop, getD_drop, getD_drop] at hx
                      rw [if_pos ⟨by omega, hx⟩, qs_esc zs i hi h3 (by omega), he]
                      exact ih (i + 6) (by omega)
                    · have he : esc zs i = 0 := by
                        rw [esc, escL, if_neg (by omega), if_neg (by rw [getD_drop]; exact h5), if_pos (by rw [getD_drop, h6]; rfl)]
                        by_cases h8 : (zs.drop i).length < 6
                        · rw [if_pos h8]
                        · rw [if_neg h8, if_neg (fun h => h7 ⟨by omega, h⟩)]
                      rw [qs_no true zs i hi h3 (.inr he), if_neg]
                      rintro ⟨h9, h10⟩
                      refine h7 ⟨by omega, ?_⟩
                      rw [hex4, getD_drop, getD_drop, getD_drop, getD_drop]
                      exact h10
                  · have he : esc zs i = 0 := by
                      rw [esc, escL, if_neg (by omega), if_neg (by rw [getD_drop]; exact h5), if_neg (by rw [getD_drop, beq_iff_eq]; exact h6)]
                    rw [aut1_no true zs (i + 1) h4 h5' h6, qs_no true zs i hi h3 (.inr he)]
              · have he : esc zs i = 0 := by rw [esc, escL, if_pos (by omega)]
                rw [aut_end true zs (i + 1) 1 (by omega), qs_no true zs i hi h3 (.inr he)]
          · rw [aut0_step es zs i hi h1 (by omega) h3, qs_step es zs i hi h1 (by omega) h3]
            exact ih (i + 1) (by omega)
    · rw [aut_end es zs i 0 (by omega), qs_end es zs i (by omega)]
end Go.Proofs.Qxb6601954a
