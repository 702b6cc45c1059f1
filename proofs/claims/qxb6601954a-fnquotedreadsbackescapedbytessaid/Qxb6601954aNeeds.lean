import Derived.Test.Qxb6601954aEncode
namespace Go.Proofs.Qxb6601954a
open Go.ChangeShapes Go.WideShapes Go.ChangeAt Go.RowKit

theorem enc_zero (a : Option Addr) (cap : Nat) (w : World) :
    Calls Try.prog 23 #[.slice a 0 cap] w fun e w' => e = .returned (.slice (some ⟨w.heap.size, 0, none⟩) 0 0) ∧ w'.ownsRow w.heap.size 5 1 (.slice (some ⟨w.heap.size, 0, none⟩) 0 0) 0 [] ∧ Below w.heap.size w w' := by
  have hmk : ∀ w : World, (Instr.makeSlice 22 (.int .i64 0) (.int .i64 0)).run Try.prog w = .ok (.slice (some ⟨w.heap.size, 0, none⟩) 0 0) (w.alloc (.cells #[] 5)) := fun _ => by kernel_rfl
  go_enter Try.func23, Try.ntmps23
  go_wp2
  refine wp_loop_rounds 1 ?_
  rw [rounds_succ]
  go_wp2
  go_ret
  exact ⟨rfl, World.ownsRow_lit (base := w.heap.size) (e := 5) (size := 1) w #[] 0 (Nat.le_refl _) (Nat.zero_le _) rfl, (Below.refl _ _).alloc (Nat.le_refl _) _⟩

theorem needs_zero (a : Option Addr) (cap : Nat) (w : World) : Calls Try.prog 24 #[.slice a 0 cap] w fun e w' => e = .returned (.bool false) ∧ w' = w := by
  go_enter Try.func24, Try.ntmps24
  go_wp2
  refine wp_loop_rounds 1 ?_
  rw [rounds_succ]
  go_wp2
  go_ret
  exact ⟨rfl, rfl⟩

theorem any_yes (zs : List Int) (k : Nat) (h : k < zs.length) (hn : needs (zs.getD k 0) = true) : zs.any needs = true := by
  have e : zs.getD k 0 = zs[k] := by simp [List.getD, h]
  rw [e] at hn
  exact List.any_eq_true.2 ⟨_, List.getElem_mem h, hn⟩
theorem needs_no (c : Int) (h1 : c ≠ 34) (h2 : c ≠ 92) (h3 : 32 ≤ c) : needs c = false := by
  simp [needs, h1, h2]
  omega

set_option maxHeartbeats 800000 in
theorem needs_some (b off len cap : Nat) (zs : List Int) (w : World) (hl : zs.length = len) (hm : len ≤ 1048576)
    (hz : ∀ j, 0 ≤ zs.getD j 0 ∧ zs.getD j 0 ≤ 255) (hc : ∀ j, j < len → w.cell? ⟨b, off + j, none⟩ = some (.int .u8 (zs.getD j 0))) :
    Calls Try.prog 24 #[.slice (some ⟨b, off, none⟩) len cap] w fun e w' => e = .returned (.bool (zs.any needs)) ∧ w' = w := by
  go_enter Try.func24, Try.ntmps24
  go_wp2
  go_loop [3] (fun i => ∃ k : Nat, k ≤ len ∧ i = .int .i64 k ∧ (zs.take k).any needs = false) (fun i => len - (intOf i).toNat)
  case atStart => exact ⟨0, Nat.zero_le _, rfl, rfl⟩
  case round =>
    obtain ⟨k, hk, rfl, hno⟩ := hrel
    have HNO := hid hno
    clear hno
    by_cases hlt : k < len
    · have hcx := hc k hlt
      have hli : (k : Int) < (len : Int) := by omega
      have hzk := hz k
      by_cases hn : needs (zs.getD k 0) = true
      · have HA : Hid (zs.any needs = true) := any_yes zs k (by omega) hn
        have hn' : zs.getD k 0 = 34 ∨ (zs.getD k 0 ≠ 34 ∧ zs.getD k 0 = 92) ∨ (zs.getD k 0 ≠ 34 ∧ zs.getD k 0 ≠ 92 ∧ zs.getD k 0 < 32) := by
          simp only [needs, Bool.or_eq_true, beq_iff_eq, decide_eq_true_eq] at hn
          omega
        clear hc hz hn
        generalize zs.getD k 0 = c at *
        rcases hn' with rfl | ⟨h1, rfl⟩ | ⟨h1, h2, h3⟩
        · go_wp2
          go_ret
          exact ⟨by rw [HA.out]; rfl, rfl⟩
        · clear h1
          go_wp2
          go_ret
          exact ⟨by rw [HA.out]; rfl, rfl⟩
        · have e1 := beq_eq_false_iff_ne.2 h1
          have e2 := beq_eq_false_iff_ne.2 h2
          clear h1 h2
          go_wp2
          go_ret
          exact ⟨by rw [HA.out]; rfl, rfl⟩
      · have hn' : needs (zs.getD k 0) = false := by simpa using hn
        have HN : Hid ((zs.take (k + 1)).any needs = false) := by
          show (zs.take (k + 1)).any needs = false
          rw [take_snoc zs k (by omega), List.any_append, HNO.out, Bool.false_or, List.any_cons, hn', List.any_nil]
          rfl
        have h3 : zs.getD k 0 ≠ 34 ∧ zs.getD k 0 ≠ 92 ∧ 32 ≤ zs.getD k 0 := by
          simp only [needs, Bool.or_eq_false_iff, beq_eq_false_iff_ne, decide_eq_false_iff_not] at hn'
          exact ⟨hn'.1.1, hn'.1.2, by omega⟩
        obtain ⟨h1, h2, h32⟩ := h3
        have e1 := beq_eq_false_iff_ne.2 h1
        have e2 := beq_eq_false_iff_ne.2 h2
        clear hc hz hn hn' h1 h2
        generalize zs.getD k 0 = c at *
        have e3 : decide (c < 32) = false := decide_eq_false (by omega)
        go_wp2
        go_round
        case rel => exact ⟨k + 1, by omega, by go_num, HN.out⟩
        case measure => simp [intOf]; omega
    · have hkl : k = len := by omega
      subst hkl
      clear hc hz
      have HA : Hid (zs.any needs = false) := by
        have := HNO.out
        rwa [List.take_of_length_le (by omega)] at this
      go_wp2
      go_ret
      exact ⟨by rw [HA.out]; rfl, rfl⟩
theorem zz22_any (a1 a2 : Option Addr) (l1 c1 l2 c2 : Nat) (w : World) (h1 : l1 ≤ maxLen) (h2 : l2 ≤ maxLen) :
    Calls Try.prog 22 #[.slice a1 l1 c1, .slice a2 l2 c2] w fun e w' => RetBool e ∧ w' = w := by
  unfold maxLen at h1 h2
  go_enter Try.func22, Try.ntmps22
  go_wp2
  all_goals (go_ret; exact ⟨⟨_, rfl⟩, rfl⟩)
end Go.Proofs.Qxb6601954a
