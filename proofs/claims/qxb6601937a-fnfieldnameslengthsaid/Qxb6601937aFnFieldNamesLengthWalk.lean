import Derived.Test.Qxb6601937aLaws
namespace Go.Proofs.Qxb6601937a.fnFieldNamesLength
open Go.ChangeShapes Go.WideShapes Go.ChangeAt Go.RowKit

theorem total_le (ss : List ByteArray) (k : Nat) : total (ss.take k) ≤ total ss := by
  rw [total_tot, total_tot]
  have := tot_take ss k
  omega
theorem ret_true {a b : Int} (h : a = b) : Ending.returned (.bool (a == b)) = .returned (.bool true) := by rw [h]; simp

set_option maxHeartbeats 800000 in
theorem walk (a0 : Option Addr) (len0 cap0 : Nat) (ss : List ByteArray) (w : World) (h0 : IsRow w a0 len0 cap0 ss) (hr : len0 ≤ 140737488351232) :
    Calls Try.prog 5 #[.slice a0 len0 cap0] w fun e w' => e = .returned (.bool true) ∧ Below w.heap.size w w' := by
  have HL : Hid (ss.length = len0) := h0.1
  go_enter Try.func5, Try.ntmps5
  go_wp2_with fail
  refine (zz15_any a0 len0 cap0 ss _ h0 hr).mono ?_
  rintro e w' ⟨⟨r, rfl⟩, hw⟩
  obtain rfl := hw.symm
  cases r
  · go_wp2
    go_ret
    exact ⟨rfl, Below.refl _ _⟩
  by_cases c1 : 16384 < len0
  · go_wp2
    go_ret
    exact ⟨rfl, Below.refl _ _⟩
  go_wp2_with fail
  refine (names_any a0 len0 cap0 ss _ h0 hr).mono ?_
  rintro e w' ⟨n, rfl, hn0, hn1, hn, hw⟩
  obtain rfl := hw.symm
  by_cases c3 : 1048576 < n
  · clear hn
    go_wp2
    go_ret
    exact ⟨rfl, Below.refl _ _⟩
  have ht : total ss ≤ 1048576 := by have := hn (by omega); omega
  have ht' : tot ss ≤ 1048576 := by rw [total_tot] at ht; omega
  have hlen : ss.length ≤ 16384 := by rw [HL.out]; omega
  clear hn
  go_wp2_with fail
  refine (clone_any a0 len0 cap0 ss _ h0 (by omega)).mono ?_
  rintro e w1 ⟨hcl, hb1⟩
  rcases hcl with ⟨he, a1, c1, rfl⟩ | ⟨hpos, rfl, hs1, hc1⟩
  · go_wp2_with fail
    refine (part_zero a1 c1 _).mono ?_
    rintro e w2 ⟨p, rfl, hp, hb2⟩
    go_wp2_with fail
    refine (zfnames_any p w1.heap.size w1.heap.size [] _ (by simp) (by simp [tot]) hp).mono ?_
    rintro e w3 ⟨rfl, hb3⟩
    have hbel : Below w.heap.size w w3 := hb1.trans ((hb2.trans (hb3.mono hb2.size)).mono hb1.size)
    go_wp2
    refine wp_loop_rounds 1 ?_
    rw [rounds_succ]
    go_wp2
    go_ret
    exact ⟨rfl, hbel⟩
  · go_wp2_with fail
    refine (part_some w.heap.size 0 ss.length ss.length ss _ rfl hlen hs1 (fun j hj => by rw [Nat.zero_add]; exact hc1 j hj)).mono ?_
    rintro e w2 ⟨p, rfl, hp, hb2⟩
    go_wp2_with fail
    refine (zfnames_any p w1.heap.size w1.heap.size ss _ hlen ht' hp).mono ?_
    rintro e w3 ⟨rfl, hb3⟩
    have hbel : Below w.heap.size w w3 := hb1.trans ((hb2.trans (hb3.mono hb2.size)).mono hb1.size)
    have hc3 : ∀ j, j < ss.length → w3.cell? ⟨w.heap.size, j, none⟩ = some (.string (ss.getD j ByteArray.empty)) := fun j hj => (hb3.cell (Nat.lt_of_lt_of_le hs1 hb2.size)).trans ((hb2.cell hs1).trans (hc1 j hj))
    have hgl := english_length ss
    obtain ⟨got, hgot⟩ : ∃ got : ByteArray, got = ⟨(english ss).toArray⟩ := ⟨_, rfl⟩
    have HG : Hid ((got.size : Int) = total ss + (if 2 ≤ ss.length then 5 + 2 * ((ss.length : Int) - 2) else 0)) := by
      show (got.size : Int) = _
      rw [hgot, total_tot]
      show (((english ss).toArray.size : Nat) : Int) = _
      rw [List.size_toArray, hgl]
      split <;> omega
    rw [← hgot]
    clear hgot hgl hb1 hb2 hb3 hc1 hp
    go_wp2
    go_loop [4, 5] (fun t i => ∃ k : Nat, k ≤ ss.length ∧ i = .int .i64 k ∧ t = .int .i64 (total (ss.take k))) (fun _ i => ss.length - (intOf i).toNat)
    case atStart => exact ⟨0, Nat.zero_le _, rfl, rfl⟩
    case round =>
      obtain ⟨k, hk, rfl, rfl⟩ := hrel
      have h0 := total_nonneg (ss.take k)
      have h1 := total_le ss k
      by_cases hlt : k < ss.length
      · have hcx := hc3 k hlt
        have hts := total_snoc (ss.take k) (ss.getD k ByteArray.empty)
        rw [← take_snoc ss k (by omega)] at hts
        have h2 := total_le ss (k + 1)
        have h3 : (ss.getD k ByteArray.empty).size ≤ 1048576 := by have := tot_get ss k hlt; omega
        have HT := hid' hts
        clear hts hc3 h2
        generalize ss.getD k ByteArray.empty = s at *
        go_wp2
        go_round
        case rel => exact ⟨k + 1, by omega, by go_num, congrArg (Value.int .i64) (by rw [HT.out])⟩
        case measure => simp [intOf]; omega
      · have hkl : k = ss.length := by omega
        subst hkl
        clear hc3
        rw [List.take_of_length_le (Nat.le_refl _)] at *
        by_cases h2 : 2 ≤ ss.length
        · go_wp2
          go_ret
          exact ⟨ret_true (by rw [HG.out, if_pos h2]), hbel⟩
        · go_wp2
          go_ret
          exact ⟨ret_true (by rw [HG.out, if_neg h2]; omega), hbel⟩
end Go.Proofs.Qxb6601937a.fnFieldNamesLength
