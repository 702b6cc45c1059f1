import Derived.Test.Qxb6601937aAny
import Derived.Test.Qxb6601937aField
namespace Go.Proofs.Qxb6601937a.fnFieldIsFirstOfItsName
open Go.ChangeShapes Go.WideShapes Go.ChangeAt Go.RowKit

theorem hid {p : Prop} (h : p) : Hid p := h
theorem info38' : (Try.prog.info? 38).isSome = true := by kernel_rfl
theorem eq_ptr (a : Addr) (w : World) : (binOp .eql 28 (.pointer (some a)) (.pointer (some a))).run Try.prog w = .ok (.bool true) w := by
  obtain ⟨j, hj⟩ := Option.isSome_iff_exists.1 info38'
  exact run_eql_ptr_same w a Try.underlying28 hj

set_option maxHeartbeats 800000 in
theorem walk (a0 : Option Addr) (len0 cap0 : Nat) (ss : List ByteArray) (nm : ByteArray) (w : World) (h0 : IsRow w a0 len0 cap0 ss) (hr : len0 ≤ 140737488351232) (hn : nm.size ≤ maxLen) :
    Calls Try.prog 3 #[.slice a0 len0 cap0, .string nm] w fun e w' => e = .returned (.bool true) ∧ Below w.heap.size w w' := by
  have hn' := hn
  unfold maxLen at hn'
  have hptr := eq_ptr
  have hl := h0.1
  have HL : Hid (ss.length = len0) := hl
  clear hl
  go_enter Try.func3, Try.ntmps3
  go_wp2_with fail
  refine (zz7_any a0 len0 cap0 ss nm _ h0 hr hn).mono ?_
  rintro e w' ⟨⟨r, rfl⟩, hw⟩
  obtain rfl := hw.symm
  cases r
  · go_wp2
    go_ret
    exact ⟨rfl, Below.refl _ _⟩
  by_cases c1 : 16384 < len0
  · go_wp2
    go_ret
    exact ⟨rfl, Below.refl _ _⟩
  by_cases c2 : 1048576 < nm.size
  · go_wp2
    go_ret
    exact ⟨rfl, Below.refl _ _⟩
  go_wp2_with fail
  refine (names_any a0 len0 cap0 ss _ h0 hr).mono ?_
  rintro e w' ⟨n, rfl, hn0, hn1, _, hw⟩
  obtain rfl := hw.symm
  by_cases c3 : 1048576 < n + nm.size
  · go_wp2
    go_ret
    exact ⟨rfl, Below.refl _ _⟩
  go_wp2_with fail
  refine (clone_any a0 len0 cap0 ss _ h0 (by omega)).mono ?_
  rintro e w1 ⟨hcl, hb1⟩
  rcases hcl with ⟨he, a1, c1, rfl⟩ | ⟨hpos, rfl, hs1, hc1⟩
  · go_wp2_with fail
    refine (part_zero a1 c1 _).mono ?_
    rintro e w2 ⟨p, rfl, hp, hb2⟩
    go_wp2_with fail
    refine (zfield_any p w1.heap.size w1.heap.size [] nm _ (by simp) hp).mono ?_
    rintro e w3 ⟨hf, hw⟩
    obtain rfl := hw.symm
    rcases hf with ⟨rfl, _⟩ | ⟨i, hi, _⟩
    · go_wp2
      refine wp_loop_rounds 1 ?_
      rw [rounds_succ]
      go_wp2
      go_ret
      exact ⟨rfl, hb1.trans (hb2.mono hb1.size)⟩
    · exact absurd hi (by simp)
  · go_wp2_with fail
    refine (part_some w.heap.size 0 ss.length ss.length ss _ rfl (by rw [HL.out]; omega) hs1 (fun j hj => by rw [Nat.zero_add]; exact hc1 j hj)).mono ?_
    rintro e w2 ⟨p, rfl, hp, hb2⟩
    go_wp2_with fail
    refine (zfield_any p w1.heap.size w1.heap.size ss nm _ (by rw [HL.out]; omega) hp).mono ?_
    rintro e w3 ⟨hf, hw⟩
    obtain rfl := hw.symm
    have hbel : Below w.heap.size w w2 := hb1.trans (hb2.mono hb1.size)
    have hc2 : ∀ j, j < ss.length → w2.cell? ⟨w.heap.size, j, none⟩ = some (.string (ss.getD j ByteArray.empty)) := fun j hj => (hb2.cell hs1).trans (hc1 j hj)
    have hlen : ss.length ≤ 16384 := by rw [HL.out]; omega
    clear hb1 hb2 hc1
    rcases hf with ⟨rfl, hF⟩ | ⟨i, hi, rfl, hF⟩
    all_goals
      have HF := hid hF
      clear hF
      go_wp2
      go_loop [7, 8] (fun u i => ∃ (k : Nat) (v : Int), k ≤ ss.length ∧ i = .int .i64 ((k : Int) - 1) ∧ u = .int .i64 v ∧ Want ss nm k v) (fun _ i => (intOf i + 1).toNat)
      case atStart => exact ⟨ss.length, -1, Nat.le_refl _, by go_num, rfl, want_end ss nm⟩
      case round =>
        obtain ⟨k, v, hk, rfl, rfl, hw⟩ := hrel
        have HW := hid hw
        clear hw
        cases k with
        | zero =>
          clear hc2
          obtain rfl := want_one HF.out HW.out
          first
          | (go_wp2
             go_ret
             exact ⟨rfl, hbel⟩)
          | (go_wp2_with fail
             refine (zat_any p w1.heap.size w1.heap.size ss i _ hi hp).mono ?_
             rintro e w' ⟨rfl, hw⟩
             obtain rfl := hw.symm
             go_wp2
             go_ret
             exact ⟨rfl, hbel⟩)
        | succ k =>
          have hcx := hc2 k (by omega)
          have HS : Hid (same ss nm k = ((ss.getD k ByteArray.empty).toList == nm.toList)) := rfl
          clear hc2
          generalize ss.getD k ByteArray.empty = s at *
          have ek : (((k + 1 : Nat) : Int) - 1) = (k : Int) := by omega
          rw [ek]
          clear ek
          go_wp2
          · have hs : (s.toList == nm.toList) = true := by assumption
            go_round
            case rel => exact ⟨k, k, by omega, rfl, rfl, want_hit (by omega) (HS.out.trans hs)⟩
            case measure => simp [intOf]
          · have hs : (s.toList == nm.toList) = false := by assumption
            go_round
            case rel => exact ⟨k, v, by omega, rfl, rfl, want_miss (HS.out.trans hs) HW.out⟩
            case measure => simp [intOf]
end Go.Proofs.Qxb6601937a.fnFieldIsFirstOfItsName
