import Derived.Test.Qxb6601954aPlainQ
namespace Go.Proofs.Qxb6601954a

/-- the hex digit of d, as a byte -/
def hx (d : Int) : Int := if d < 10 then 48 + d else 87 + d
/-- a byte, escaped -/
def enc1 (c : Int) : List Int :=
  if c = 34 then [92, 34] else if c = 92 then [92, 92] else if c = 10 then [92, 110] else if c = 9 then [92, 116] else if c < 32 then [92, 117, 48, 48, hx (c / 16), hx (c % 16)] else [c]
/-- bytes, escaped -/
def enc : List Int → List Int
  | [] => []
  | c :: r => enc1 c ++ enc r
theorem enc_app (a b : List Int) : enc (a ++ b) = enc a ++ enc b := by
  induction a with
  | nil => rfl
  | cons c a ih => simp [enc, ih]
theorem enc_one (c : Int) : enc [c] = enc1 c := by simp [enc]
theorem enc1_len (c : Int) : (enc1 c).length ≤ 6 ∧ 1 ≤ (enc1 c).length := by
  unfold enc1
  split
  · simp
  · split
    · simp
    · split
      · simp
      · split
        · simp
        · split <;> simp
theorem enc_len (s : List Int) : (enc s).length ≤ 6 * s.length := by
  induction s with
  | nil => simp [enc]
  | cons c s ih =>
    have := enc1_len c
    rw [enc, List.length_append, List.length_cons]
    omega
/-- does c want an escape? -/
def needs (c : Int) : Bool := c == 34 || c == 92 || decide (c < 32)
theorem enc1_plain (c : Int) (h : needs c = false) : enc1 c = [c] := by
  simp only [needs, Bool.or_eq_false_iff, beq_eq_false_iff_ne, decide_eq_false_iff_not] at h
  unfold enc1
  rw [if_neg h.1.1, if_neg h.1.2, if_neg (by omega), if_neg (by omega), if_neg h.2]
theorem enc1_bs (c : Int) (h : needs c = true) : ∃ r, enc1 c = 92 :: r := by
  unfold enc1
  by_cases h1 : c = 34
  · rw [if_pos h1]; exact ⟨_, rfl⟩
  · rw [if_neg h1]
    by_cases h2 : c = 92
    · rw [if_pos h2]; exact ⟨_, rfl⟩
    · rw [if_neg h2]
      by_cases h3 : c = 10
      · rw [if_pos h3]; exact ⟨_, rfl⟩
      · rw [if_neg h3]
        by_cases h4 : c = 9
        · rw [if_pos h4]; exact ⟨_, rfl⟩
        · rw [if_neg h4]
          have : c < 32 := by
            simp only [needs, Bool.or_eq_true, beq_iff_eq, decide_eq_true_eq] at h
            omega
          rw [if_pos this]
          exact ⟨_, rfl⟩
theorem enc_plain (s : List Int) (h : ∀ c ∈ s, needs c = false) : enc s = s := by
  induction s with
  | nil => rfl
  | cons c s ih =>
    rw [enc, enc1_plain c (h c (by simp)), ih (fun d hd => h d (by simp [hd]))]
    rfl

theorem hx_bound (d : Int) (h0 : 0 ≤ d) (h1 : d < 16) : (48 ≤ hx d ∧ hx d ≤ 57) ∨ (97 ≤ hx d ∧ hx d ≤ 102) := by
  unfold hx
  split <;> omega
theorem hx_hex (d : Int) (h0 : 0 ≤ d) (h1 : d < 16) : hexd (hx d) = true := by
  unfold hexd
  rcases hx_bound d h0 h1 with ⟨a, b⟩ | ⟨a, b⟩ <;> simp [a, b]

/-- one escaped byte is stepped over whole -/
theorem qs_enc1 (pre post : List Int) (c : Int) (h0 : 0 ≤ c) (h1 : c ≤ 255) : qs true (pre ++ (enc1 c ++ post)) pre.length = qs true (pre ++ (enc1 c ++ post)) (pre.length + (enc1 c).length) := by
  have hlen : (pre ++ (enc1 c ++ post)).length = pre.length + (enc1 c).length + post.length := by simp; omega
  have h2 := (enc1_len c).2
  have hat : ∀ j, j < (enc1 c).length → (pre ++ (enc1 c ++ post)).getD (pre.length + j) 0 = (enc1 c).getD j 0 := by
    intro j hj
    rw [getD_app, if_neg (by omega), getD_app, if_pos (by omega)]
    congr 1
    omega
  have hat0 : (pre ++ (enc1 c ++ post)).getD pre.length 0 = (enc1 c).getD 0 0 := by simpa using hat 0 (by omega)
  by_cases hn : needs c = true
  · obtain ⟨r, hr⟩ := enc1_bs c hn
    have hbs : (pre ++ (enc1 c ++ post)).getD pre.length 0 = 92 := by rw [hat0, hr]; rfl
    have he : esc (pre ++ (enc1 c ++ post)) pre.length = (enc1 c).length := by
      have hd : (pre ++ (enc1 c ++ post)).drop pre.length = enc1 c ++ post := List.drop_left
      unfold esc
      rw [hd]
      have two : ∀ x, enc1 c = [92, x] → short x = true → escL (enc1 c ++ post) = (enc1 c).length := by
        intro x hx hs
        rw [hx, escL, if_neg (by simp)]
        show (if short x = true then 2 else _) = 2
        rw [if_pos hs]
      unfold enc1 at two ⊢
      by_cases g1 : c = 34
      · rw [if_pos g1] at two ⊢; exact two 34 rfl rfl
      · rw [if_neg g1] at two ⊢
        by_cases g2 : c = 92
        · rw [if_pos g2] at two ⊢; exact two 92 rfl rfl
        · rw [if_neg g2] at two ⊢
          by_cases g3 : c = 10
          · rw [if_pos g3] at two ⊢; exact two 110 rfl rfl
          · rw [if_neg g3] at two ⊢
            by_cases g4 : c = 9
            · rw [if_pos g4] at two ⊢; exact two 116 rfl rfl
            · rw [if_neg g4] at two ⊢
              have g5 : c < 32 := by
                simp only [needs, Bool.or_eq_true, beq_iff_eq, decide_eq_true_eq] at hn
                omega
              rw [if_pos g5]
              rw [escL, if_neg (by simp)]
              show (if short 117 = true then 2 else if (117 : Int) == 117 then (if _ < 6 then 0 else if hex4 _ = true then 6 else 0) else 0) = 6
              rw [if_neg (by decide), if_pos (by decide), if_neg (by simp), if_pos]
              show (hexd 48 && (hexd 48 && (hexd (hx (c / 16)) && hexd (hx (c % 16))))) = true
              rw [hx_hex (c / 16) (by omega) (by omega), hx_hex (c % 16) (by omega) (by omega)]
              rfl
    rw [qs_esc _ _ (by omega) hbs (by rw [he]; omega), he]
  · have hn' : needs c = false := by simpa using hn
    have h3 := enc1_plain c hn'
    have hcc : (pre ++ (enc1 c ++ post)).getD pre.length 0 = c := by rw [hat0, h3]; rfl
    simp only [needs, Bool.or_eq_false_iff, beq_eq_false_iff_ne, decide_eq_false_iff_not] at hn'
    have h4 : (enc1 c).length = 1 := by rw [h3]; rfl
    rw [qs_step true _ _ (by omega) (by rw [hcc]; exact hn'.1.1) (by rw [hcc]; omega) (by rw [hcc]; exact hn'.1.2), h4]

theorem qs_enc (s : List Int) : ∀ (pre post : List Int), (∀ c ∈ s, 0 ≤ c ∧ c ≤ 255) → qs true (pre ++ (enc s ++ (34 :: post))) pre.length = some (pre.length + (enc s).length) := by
  induction s with
  | nil =>
    intro pre post _
    rw [enc, List.nil_append, List.length_nil, Nat.add_zero]
    refine qs_quote true _ _ (by simp) ?_
    rw [getD_app, if_neg (by omega), Nat.sub_self]
    rfl
  | cons c s ih =>
    intro pre post h
    have hc := h c (by simp)
    have h1 := qs_enc1 pre (enc s ++ (34 :: post)) c hc.1 hc.2
    have h2 := ih (pre ++ enc1 c) post (fun d hd => h d (by simp [hd]))
    rw [List.length_append, List.append_assoc] at h2
    rw [enc, List.append_assoc, h1, h2, List.length_append, Nat.add_assoc]

/-- without escapes: plain bytes up to the closing quote -/
theorem qs_plain (s : List Int) : ∀ (pre post : List Int), (∀ c ∈ s, needs c = false) → qs false (pre ++ (s ++ (34 :: post))) pre.length = some (pre.length + s.length) := by
  induction s with
  | nil =>
    intro pre post _
    rw [List.nil_append, List.length_nil, Nat.add_zero]
    refine qs_quote false _ _ (by simp) ?_
    rw [getD_app, if_neg (by omega), Nat.sub_self]
    rfl
  | cons c s ih =>
    intro pre post h
    have hn' := h c (by simp)
    have hcc : (pre ++ ((c :: s) ++ (34 :: post))).getD pre.length 0 = c := by
      rw [getD_app, if_neg (by omega), Nat.sub_self]; rfl
    simp only [needs, Bool.or_eq_false_iff, beq_eq_false_iff_ne, decide_eq_false_iff_not] at hn'
    have h2 := ih (pre ++ [c]) post (fun d hd => h d (by simp [hd]))
    rw [List.length_append, List.append_assoc] at h2
    rw [qs_step false _ _ (by simp) (by rw [hcc]; exact hn'.1.1) (by rw [hcc]; omega) (by rw [hcc]; exact hn'.1.2)]
    have e : pre ++ ((c :: s) ++ (34 :: post)) = pre ++ ([c] ++ (s ++ (34 :: post))) := by simp
    rw [e]
    refine h2.trans ?_
    simp
    omega

/-- without escapes: the first byte that wants one ends it -/
theorem qs_refused (s : List Int) : ∀ (pre post : List Int), (∃ c ∈ s, needs c = true) → qs false (pre ++ (enc s ++ (34 :: post))) pre.length = none := by
  induction s with
  | nil => intro pre post h; obtain ⟨c, hc, _⟩ := h; simp at hc
  | cons c s ih =>
    intro pre post h
    by_cases hn : needs c = true
    · obtain ⟨r, hr⟩ := enc1_bs c hn
      have hcc : (pre ++ (enc (c :: s) ++ (34 :: post))).getD pre.length 0 = 92 := by
        rw [enc, hr, getD_app, if_neg (by omega), Nat.sub_self]; rfl
      refine qs_no false _ _ ?_ hcc (.inl rfl)
      rw [enc, hr]
      simp
    · have hn' : needs c = false := by simpa using hn
      have h3 := enc1_plain c hn'
      have hcc : (pre ++ (enc (c :: s) ++ (34 :: post))).getD pre.length 0 = c := by
        rw [enc, h3, getD_app, if_neg (by omega), Nat.sub_self]; rfl
      simp only [needs, Bool.or_eq_false_iff, beq_eq_false_iff_ne, decide_eq_false_iff_not] at hn'
      have h4 : ∃ d ∈ s, needs d = true := by
        obtain ⟨d, hd, hdn⟩ := h
        rcases List.mem_cons.1 hd with rfl | hd
        · exact absurd hdn hn
        · exact ⟨d, hd, hdn⟩
      have h2 := ih (pre ++ [c]) post h4
      rw [List.length_append, List.append_assoc] at h2
      rw [qs_step false _ _ (by rw [enc, h3]; simp) (by rw [hcc]; exact hn'.1.1) (by rw [hcc]; omega) (by rw [hcc]; exact hn'.1.2)]
      have e : pre ++ (enc (c :: s) ++ (34 :: post)) = pre ++ ([c] ++ (enc s ++ (34 :: post))) := by rw [enc, h3]; simp
      rw [e]
      exact h2
end Go.Proofs.Qxb6601954a
