import Derived.Test.Qxb6601954aSkip
import Derived.Test.Qxb6601954aPlainQ
namespace Go.Proofs.Qxb6601954a
open Go.ChangeShapes Go.WideShapes Go.ChangeAt Go.RowKit

/-- seven stretches of bytes, by which every test of 'is it a hex digit' is decided -/
theorem seven (c : Int) : c < 48 ∨ (48 ≤ c ∧ c ≤ 57) ∨ (57 < c ∧ c < 65) ∨ (65 ≤ c ∧ c ≤ 70) ∨ (70 < c ∧ c < 97) ∨ (97 ≤ c ∧ c ≤ 102) ∨ 102 < c := by omega
theorem hexd_yes (c : Int) (h : (48 ≤ c ∧ c ≤ 57) ∨ (65 ≤ c ∧ c ≤ 70) ∨ (97 ≤ c ∧ c ≤ 102)) : hexd c = true := by
  unfold hexd
  rcases h with ⟨h1, h2⟩ | ⟨h1, h2⟩ | ⟨h1, h2⟩ <;> simp [h1, h2]
theorem hexd_no (c : Int) (h : ¬ ((48 ≤ c ∧ c ≤ 57) ∨ (65 ≤ c ∧ c ≤ 70) ∨ (97 ≤ c ∧ c ≤ 102))) : hexd c = false := by
  unfold hexd
  by_cases a1 : 48 ≤ c <;> by_cases a2 : c ≤ 57 <;> by_cases a3 : 97 ≤ c <;> by_cases a4 : c ≤ 102 <;> by_cases a5 : 65 ≤ c <;> by_cases a6 : c ≤ 70 <;> simp [a1, a2, a3, a4, a5, a6] <;> omega
theorem hex4_no (ys : List Int) (k : Nat) (hk : k < 4) (h : hexd (ys.getD (2 + k) 0) = false) : hex4 ys = false := by
  unfold hex4
  match k, hk, h with
  | 0, _, h => rw [h]; rfl
  | 1, _, h => rw [h]; simp
  | 2, _, h => rw [h]; simp
  | 3, _, h => rw [h]; simp
theorem hex4_yes (ys : List Int) (h : ∀ k, k < 4 → hexd (ys.getD (2 + k) 0) = true) : hex4 ys = true := by
  unfold hex4
  have h0 := h 0 (by omega)
  have h1 := h 1 (by omega)
  have h2 := h 2 (by omega)
  have h3 := h 3 (by omega)
  simp only [Nat.add_zero, Nat.reduceAdd] at h0 h1 h2 h3
  rw [h0, h1, h2, h3]
  rfl

set_option maxHeartbeats 1600000 in
theorem esc_any (b off n cap : Nat) (ys : List Int) (w : World) (hl : ys.length = n) (hp : 0 < n) (hm : n ≤ 8388608) (hcap : n ≤ cap)
    (hz : ∀ j, 0 ≤ ys.getD j 0 ∧ ys.getD j 0 ≤ 255) (hc : ∀ j, j < n → w.cell? ⟨b, off + j, none⟩ = some (.int .u8 (ys.getD j 0))) :
    Calls Try.prog 32 #[.slice (some ⟨b, off, none⟩) n cap] w fun e w' => e = .returned (.int .i64 (escL ys)) ∧ w' = w := by
  by_cases h2 : n < 2
  · have he : Hid (escL ys = 0) := by show escL ys = 0; rw [escL, if_pos (by omega)]
    clear hc
    go_enter Try.func32, Try.ntmps32
    go_wp2
    go_ret
    exact ⟨by rw [he.out]; rfl, rfl⟩
  have hc1 := hc 1 (by omega)
  have hi1 : (1 : Int) < (n : Int) := by omega
  have hz1 := hz 1
  by_cases hs : short (ys.getD 1 0) = true
  · have he : Hid (escL ys = 2) := by show escL ys = 2; rw [escL, if_neg (by omega), if_pos hs]
    have hs' : ys.getD 1 0 = 34 ∨ ys.getD 1 0 = 92 ∨ ys.getD 1 0 = 47 ∨ ys.getD 1 0 = 98 ∨ ys.getD 1 0 = 102 ∨ ys.getD 1 0 = 110 ∨ ys.getD 1 0 = 114 ∨ ys.getD 1 0 = 116 := by
      simp only [short, Bool.or_eq_true, beq_iff_eq] at hs
      omega
    clear hc hz hs
    rcases hs' with h | h | h | h | h | h | h | h
    all_goals
      rw [h] at hc1
      clear h hz1
      go_enter Try.func32, Try.ntmps32
      go_wp2
      go_ret
      exact ⟨by rw [he.out]; rfl, rfl⟩
  have hs' : ys.getD 1 0 ≠ 34 ∧ ys.getD 1 0 ≠ 92 ∧ ys.getD 1 0 ≠ 47 ∧ ys.getD 1 0 ≠ 98 ∧ ys.getD 1 0 ≠ 102 ∧ ys.getD 1 0 ≠ 110 ∧ ys.getD 1 0 ≠ 114 ∧ ys.getD 1 0 ≠ 116 := by
    simp only [short, Bool.or_eq_true, beq_iff_eq] at hs
    omega
  by_cases hu : ys.getD 1 0 = 117
  · rw [hu] at hc1
    by_cases h6 : n < 6
    · have he : Hid (escL ys = 0) := by show escL ys = 0; rw [escL, if_neg (by omega), if_neg hs, if_pos (by rw [hu]; rfl), if_pos (by omega)]
      clear hc hz hs hs' hz1 hu
      go_enter Try.func32, Try.ntmps32
      go_wp2
      go_ret
      exact ⟨by rw [he.out]; rfl, rfl⟩
    · have he : Hid (escL ys = if hex4 ys = true then 6 else 0) := by show escL ys = _; rw [escL, if_neg (by omega), if_neg hs, if_pos (by rw [hu]; rfl), if_neg (by omega)]
      clear hs hs' hz1 hu
      go_enter Try.func32, Try.ntmps32
      go_wp2
      go_loop [28] (fun i => ∃ k : Nat, k ≤ 4 ∧ i = .int .i64 k ∧ ∀ j, j < k → hexd (ys.getD (2 + j) 0) = true) (fun i => 4 - (intOf i).toNat)
      case atStart => exact ⟨0, by omega, rfl, by omega⟩
      case round =>
        obtain ⟨k, hk, rfl, hall⟩ := hrel
        have HA := hid hall
        clear hall
        by_cases hlt : k < 4
        · have hcx : w.cell? ⟨b, off + 2 + k, none⟩ = some (.int .u8 (ys.getD (2 + k) 0)) := by rw [Nat.add_assoc]; exact hc (2 + k) (by omega)
          have hzk := hz (2 + k)
          obtain ⟨c, hcc⟩ : ∃ c, c = ys.getD (2 + k) 0 := ⟨_, rfl⟩
          rw [← hcc] at hcx hzk
          have HC := hid hcc
          have hli : (k : Int) < 4 := by omega
          clear hcc hc hz hc1
          by_cases hh : (48 ≤ c ∧ c ≤ 57) ∨ (65 ≤ c ∧ c ≤ 70) ∨ (97 ≤ c ∧ c ≤ 102)
          · have HH : Hid (∀ j, j < k + 1 → hexd (ys.getD (2 + j) 0) = true) := by
              intro j hj
              by_cases e : j = k
              · subst e; rw [← HC.out]; exact hexd_yes c hh
              · exact HA.out j (by omega)
            rcases hh with ⟨h1, h2⟩ | ⟨h1, h2⟩ | ⟨h1, h2⟩
            all_goals
              go_wp2
              go_round
              case rel => exact ⟨k + 1, by omega, by go_num, HH.out⟩
              case measure => simp [intOf]; omega
          · have HX : Hid (escL ys = 0) := by
              show escL ys = 0
              rw [he.out, hex4_no ys k hlt (by rw [← HC.out]; exact hexd_no c hh)]
              rfl
            have h7 : c < 48 ∨ (57 < c ∧ c < 65) ∨ (70 < c ∧ c < 97) ∨ 102 < c := by omega
            clear hh
            rcases h7 with h1 | ⟨h1, h2⟩ | ⟨h1, h2⟩ | h1
            · have d1 : decide (48 ≤ c) = false := decide_eq_false (by omega)
              have d3 : decide (97 ≤ c) = false := decide_eq_false (by omega)
              have d5 : decide (65 ≤ c) = false := decide_eq_false (by omega)
              go_wp2
              go_ret
              exact ⟨by rw [HX.out]; rfl, rfl⟩
            · have d1 : decide (48 ≤ c) = true := decide_eq_true (by omega)
              have d2 : decide (c ≤ 57) = false := decide_eq_false (by omega)
              have d3 : decide (97 ≤ c) = false := decide_eq_false (by omega)
              have d5 : decide (65 ≤ c) = false := decide_eq_false (by omega)
              go_wp2
              go_ret
              exact ⟨by rw [HX.out]; rfl, rfl⟩
            · have d1 : decide (48 ≤ c) = true := decide_eq_true (by omega)
              have d2 : decide (c ≤ 57) = false := decide_eq_false (by omega)
              have d3 : decide (97 ≤ c) = false := decide_eq_false (by omega)
              have d5 : decide (65 ≤ c) = true := decide_eq_true (by omega)
              have d6 : decide (c ≤ 70) = false := decide_eq_false (by omega)
              go_wp2
              go_ret
              exact ⟨by rw [HX.out]; rfl, rfl⟩
            · have d1 : decide (48 ≤ c) = true := decide_eq_true (by omega)
              have d2 : decide (c ≤ 57) = false := decide_eq_false (by omega)
              have d3 : decide (97 ≤ c) = true := decide_eq_true (by omega)
              have d4 : decide (c ≤ 102) = false := decide_eq_false (by omega)
              have d5 : decide (65 ≤ c) = true := decide_eq_true (by omega)
              have d6 : decide (c ≤ 70) = false := decide_eq_false (by omega)
              go_wp2
              go_ret
              exact ⟨by rw [HX.out]; rfl, rfl⟩
        · have hk4 : k = 4 := by omega
          subst hk4
          have HX : Hid (escL ys = 6) := by
            show escL ys = 6
            rw [he.out, hex4_yes ys HA.out]
            rfl
          clear hc hz
          go_wp2
          go_ret
          exact ⟨by rw [HX.out]; rfl, rfl⟩
  · have he : Hid (escL ys = 0) := by show escL ys = 0; rw [escL, if_neg (by omega), if_neg hs, if_neg (by rw [beq_iff_eq]; exact hu)]
    obtain ⟨g1, g2, g3, g4, g5, g6, g7, g8⟩ := hs'
    have e1 := beq_eq_false_iff_ne.2 g1
    have e2 := beq_eq_false_iff_ne.2 g2
    have e3 := beq_eq_false_iff_ne.2 g3
    have e4 := beq_eq_false_iff_ne.2 g4
    have e5 := beq_eq_false_iff_ne.2 g5
    have e6 := beq_eq_false_iff_ne.2 g6
    have e7 := beq_eq_false_iff_ne.2 g7
    have e8 := beq_eq_false_iff_ne.2 g8
    have e9 := beq_eq_false_iff_ne.2 hu
    clear g1 g2 g3 g4 g5 g6 g7 g8 hu hc hz hs
    generalize ys.getD 1 0 = c at *
    go_enter Try.func32, Try.ntmps32
    go_wp2
    go_ret
    exact ⟨by rw [he.out]; rfl, rfl⟩
end Go.Proofs.Qxb6601954a
