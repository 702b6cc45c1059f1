import Derived.Test.Qxb6601937aRows
import Derived.WalkKit
import Derived.ProofKit
import Derived.OpenShut
import Derived.ShutString
import Derived.Below
import Derived.WalkLawsBesides
import Derived.WalkSpells
namespace Go.Proofs.Qxb6601937a
open Go.ChangeShapes Go.WideShapes Go.ChangeAt Go.RowKit

def RetBool (e : Ending) : Prop := ∃ r : Bool, e = .returned (.bool r)
/-- the sum of the strings' lengths -/
def total (l : List ByteArray) : Int := (l.map fun s => (s.size : Int)).sum
theorem total_nil : total [] = 0 := rfl
theorem total_nonneg (l : List ByteArray) : 0 ≤ total l := by
  induction l with
  | nil => exact Int.le_refl _
  | cons s l ih => simp only [total, List.map_cons, List.sum_cons] at *; omega
theorem total_snoc (l : List ByteArray) (s : ByteArray) : total (l ++ [s]) = total l + s.size := by
  simp [total, List.sum_append]
theorem take_snoc (ss : List ByteArray) (k : Nat) (h : k < ss.length) : ss.take (k + 1) = ss.take k ++ [ss.getD k ByteArray.empty] := by
  rw [List.take_succ_eq_append_getElem h]; simp [List.getD, h]

set_option maxHeartbeats 800000 in
/-- 'namesBytes': a slice whose cells are known -/
theorem names_some (b off len cap : Nat) (ss : List ByteArray) (w : World) (hl : ss.length = len) (hr : len ≤ 140737488351232)
    (hc : ∀ j, j < len → w.cell? ⟨b, off + j, none⟩ = some (.string (ss.getD j ByteArray.empty))) :
    Calls Try.prog 8 #[.slice (some ⟨b, off, none⟩) len cap] w fun e w' => ∃ n : Int, e = .returned (.int .i64 n) ∧ 0 ≤ n ∧ n ≤ 2097168 ∧ (n ≤ 1048576 → n = total ss + 16 * len) ∧ w' = w := by
  go_enter Try.func8, Try.ntmps8
  go_wp2
  go_loop [3, 4] (fun t i => ∃ k : Nat, k ≤ len ∧ i = .int .i64 k ∧ t = .int .i64 (total (ss.take k) + 16 * k) ∧ total (ss.take k) + 16 * k ≤ 1048576) (fun _ i => len - (intOf i).toNat)
  case atStart => exact ⟨0, Nat.zero_le _, rfl, rfl, by simp [total]⟩
  case round =>
    obtain ⟨k, hk, rfl, rfl, hle⟩ := hrel
    have h0 := total_nonneg (ss.take k)
    by_cases hlt : k < len
    · have hcx := hc k hlt
      have hts := total_snoc (ss.take k) (ss.getD k ByteArray.empty)
      rw [← take_snoc ss k (by omega)] at hts
      have HT : Hid (total (ss.take (k + 1)) = total (ss.take k) + (ss.getD k ByteArray.empty).size) := hts
      clear hts hc
      obtain ⟨s, hs⟩ : ∃ s, s = ss.getD k ByteArray.empty := ⟨_, rfl⟩
      rw [← hs] at hcx HT
      clear hs
      go_wp2
      · go_ret
        exact ⟨1048577, rfl, by omega, by omega, by omega, rfl⟩
      · go_ret
        exact ⟨_, rfl, by omega, by omega, by omega, rfl⟩
      · go_round
        case rel => exact ⟨k + 1, by omega, by go_num, congrArg (Value.int .i64) (by rw [HT.out]; omega), by rw [HT.out]; omega⟩
        case measure => simp [intOf]; omega
    · have hkl : k = len := by omega
      subst hkl
      rw [List.take_of_length_le (by omega)] at *
      go_wp2
      go_ret
      exact ⟨_, rfl, by omega, by omega, by omega, rfl⟩

/-- 'namesBytes': an empty slice, nil or not -/
theorem names_zero (a : Option Addr) (cap : Nat) (w : World) :
    Calls Try.prog 8 #[.slice a 0 cap] w fun e w' => e = .returned (.int .i64 0) ∧ w' = w := by
  go_enter Try.func8, Try.ntmps8
  go_wp2
  refine wp_loop_rounds 1 ?_
  rw [rounds_succ]
  go_wp2
  go_ret
  exact ⟨rfl, rfl⟩

/-- 'zzBytes_FnFieldIsFirstOfItsName': it answers, and reads alone -/
theorem zz7_zero (a : Option Addr) (cap : Nat) (nm : ByteArray) (w : World) (hn : nm.size ≤ maxLen) :
    Calls Try.prog 7 #[.slice a 0 cap, .string nm] w fun e w' => RetBool e ∧ w' = w := by
  unfold maxLen at hn
  go_enter Try.func7, Try.ntmps7
  go_wp2
  refine wp_loop_rounds 1 ?_
  rw [rounds_succ]
  go_wp2
  all_goals (go_ret; exact ⟨⟨_, rfl⟩, rfl⟩)

theorem zz7_some (b off len cap : Nat) (ss : List ByteArray) (nm : ByteArray) (w : World) (hr : len ≤ 140737488351232) (hn : nm.size ≤ maxLen)
    (hc : ∀ j, j < len → w.cell? ⟨b, off + j, none⟩ = some (.string (ss.getD j ByteArray.empty))) :
    Calls Try.prog 7 #[.slice (some ⟨b, off, none⟩) len cap, .string nm] w fun e w' => RetBool e ∧ w' = w := by
  unfold maxLen at hn
  go_enter Try.func7, Try.ntmps7
  go_wp2
  · go_ret; exact ⟨⟨_, rfl⟩, rfl⟩
  go_loop [5, 6] (fun t i => ∃ (k : Nat) (n : Int), k ≤ len ∧ i = .int .i64 k ∧ t = .int .i64 n ∧ 0 ≤ n ∧ n ≤ 1048576) (fun _ i => len - (intOf i).toNat)
  case atStart => exact ⟨0, _, Nat.zero_le _, rfl, rfl, by omega, by omega⟩
  case round =>
    obtain ⟨k, n, hk, rfl, rfl, h0, hle⟩ := hrel
    by_cases hlt : k < len
    · have hcx := hc k hlt
      generalize ss.getD k ByteArray.empty = s at hcx
      clear hc
      go_wp2
      · go_ret; exact ⟨⟨_, rfl⟩, rfl⟩
      · go_ret; exact ⟨⟨_, rfl⟩, rfl⟩
      · go_round
        case rel => exact ⟨k + 1, _, by omega, by go_num, rfl, by omega, by omega⟩
        case measure => simp [intOf]; omega
    · clear hc
      go_wp2
      all_goals (go_ret; exact ⟨⟨_, rfl⟩, rfl⟩)
end Go.Proofs.Qxb6601937a
