import Derived.Test.Qxb6601937aAny
import Derived.Test.Qxb6601937aNames
import Derived.Test.Qxb6601937aPlain2
namespace Go.Proofs.Qxb6601937a
open Go.ChangeShapes Go.WideShapes Go.ChangeAt Go.RowKit

theorem total_tot (ss : List ByteArray) : total ss = (tot ss : Int) := by
  induction ss with
  | nil => rfl
  | cons s ss ih =>
    simp only [total, tot, List.map_cons, List.sum_cons] at ih ⊢
    omega

theorem zz13_zero (a : Option Addr) (cap : Nat) (w : World) :
    Calls Try.prog 13 #[.slice a 0 cap] w fun e w' => RetBool e ∧ w' = w := by
  go_enter Try.func13, Try.ntmps13
  go_wp2
  refine wp_loop_rounds 1 ?_
  rw [rounds_succ]
  go_wp2
  all_goals (go_ret; exact ⟨⟨_, rfl⟩, rfl⟩)

theorem zz13_some (b off len cap : Nat) (ss : List ByteArray) (w : World) (hr : len ≤ 140737488351232)
    (hc : ∀ j, j < len → w.cell? ⟨b, off + j, none⟩ = some (.string (ss.getD j ByteArray.empty))) :
    Calls Try.prog 13 #[.slice (some ⟨b, off, none⟩) len cap] w fun e w' => RetBool e ∧ w' = w := by
  go_enter Try.func13, Try.ntmps13
  go_wp2
  · go_ret; exact ⟨⟨_, rfl⟩, rfl⟩
  go_loop [3, 4] (fun t i => ∃ (k : Nat) (n : Int), k ≤ len ∧ i = .int .i64 k ∧ t = .int .i64 n ∧ 0 ≤ n ∧ n ≤ 1048576) (fun _ i => len - (intOf i).toNat)
  case atStart => exact ⟨0, _, Nat.zero_le _, rfl, rfl, by omega, by omega⟩
  case round =>
    obtain ⟨k, n, hk, rfl, rfl, h0, hle⟩ := hrel
    by_cases hlt : k < len
    · have hcx := hc k hlt
      generalize ss.getD k ByteArray.empty = s at hcx
      clear hc
      go_wp2
      · go_ret; exact ⟨⟨_, rfl⟩, rfl⟩
      · go_ret; exact ⟨⟨_, rfl⟩, rfl⟩
      · go_round
        case rel => exact ⟨k + 1, _, by omega, by go_num, rfl, by omega, by omega⟩
        case measure => simp [intOf]; omega
    · clear hc
      go_wp2
      all_goals (go_ret; exact ⟨⟨_, rfl⟩, rfl⟩)

theorem zz13_any (a : Option Addr) (len cap : Nat) (ss : List ByteArray) (w : World) (h : IsRow w a len cap ss) (hr : len ≤ 140737488351232) :
    Calls Try.prog 13 #[.slice a len cap] w fun e w' => RetBool e ∧ w' = w := by
  rcases h with ⟨hl, ⟨rfl, _⟩ | ⟨_, b, off, rfl, _, hc⟩⟩
  · exact zz13_zero a cap w
  · exact zz13_some b off len cap ss w hr hc

theorem zz15_zero (a : Option Addr) (cap : Nat) (w : World) :
    Calls Try.prog 15 #[.slice a 0 cap] w fun e w' => RetBool e ∧ w' = w := by
  go_enter Try.func15, Try.ntmps15
  go_wp2
  refine wp_loop_rounds 1 ?_
  rw [rounds_succ]
  go_wp2
  all_goals (go_ret; exact ⟨⟨_, rfl⟩, rfl⟩)

theorem zz15_some (b off len cap : Nat) (ss : List ByteArray) (w : World) (hr : len ≤ 140737488351232)
    (hc : ∀ j, j < len → w.cell? ⟨b, off + j, none⟩ = some (.string (ss.getD j ByteArray.empty))) :
    Calls Try.prog 15 #[.slice (some ⟨b, off, none⟩) len cap] w fun e w' => RetBool e ∧ w' = w := by
  go_enter Try.func15, Try.ntmps15
  go_wp2
  · go_ret; exact ⟨⟨_, rfl⟩, rfl⟩
  go_loop [3, 4] (fun t i => ∃ (k : Nat) (n : Int), k ≤ len ∧ i = .int .i64 k ∧ t = .int .i64 n ∧ 0 ≤ n ∧ n ≤ 1048576) (fun _ i => len - (intOf i).toNat)
  case atStart => exact ⟨0, _, Nat.zero_le _, rfl, rfl, by omega, by omega⟩
  case round =>
    obtain ⟨k, n, hk, rfl, rfl, h0, hle⟩ := hrel
    by_cases hlt : k < len
    · have hcx := hc k hlt
      generalize ss.getD k ByteArray.empty = s at hcx
      clear hc
      go_wp2
      · go_ret; exact ⟨⟨_, rfl⟩, rfl⟩
      · go_ret; exact ⟨⟨_, rfl⟩, rfl⟩
      · go_round
        case rel => exact ⟨k + 1, _, by omega, by go_num, rfl, by omega, by omega⟩
        case measure => simp [intOf]; omega
    · clear hc
      go_wp2
      all_goals (go_ret; exact ⟨⟨_, rfl⟩, rfl⟩)

theorem zz15_any (a : Option Addr) (len cap : Nat) (ss : List ByteArray) (w : World) (h : IsRow w a len cap ss) (hr : len ≤ 140737488351232) :
    Calls Try.prog 15 #[.slice a len cap] w fun e w' => RetBool e ∧ w' = w := by
  rcases h with ⟨hl, ⟨rfl, _⟩ | ⟨_, b, off, rfl, _, hc⟩⟩
  · exact zz15_zero a cap w
  · exact zz15_some b off len cap ss w hr hc

theorem zfnames_any (p f B : Nat) (ss : List ByteArray) (w : World) (hr : ss.length ≤ 16384) (ht : tot ss ≤ 1048576) (hp : Part w B p f ss) :
    Calls Try.prog 14 #[.pointer (some ⟨p, 0, none⟩)] w fun e w' => e = .returned (.string ⟨(english ss).toArray⟩) ∧ Below w.heap.size w w' := by
  go_enter Try.func14, Try.ntmps14
  go_wp2_with fail
  refine (fnames_any p f B ss w hr ht hp).mono ?_
  rintro e w' ⟨rfl, hb⟩
  go_wp2
  go_ret
  exact ⟨rfl, hb⟩

/-- ZZMakePart at a clone -/
theorem part_any (e0 : Ending) (w0 w : World) (ss : List ByteArray) (a : Option Addr) (len cap : Nat) (hcl : IsClone w0 w ss e0) (he : e0 = .returned (.slice a len cap)) (hr : ss.length ≤ 16384) :
    Calls Try.prog 10 #[.slice a len cap] w fun e w' => ∃ p, e = .returned (.pointer (some ⟨p, 0, none⟩)) ∧ Part w' w.heap.size p w.heap.size ss ∧ Below w.heap.size w w' := by
  rcases hcl with ⟨rfl, a1, c1, rfl⟩ | ⟨hpos, rfl, hs1, hc1⟩
  · simp only [Ending.returned.injEq, Value.slice.injEq] at he
    obtain ⟨rfl, rfl, rfl⟩ := he
    exact part_zero _ _ w
  · simp only [Ending.returned.injEq, Value.slice.injEq] at he
    obtain ⟨rfl, rfl, rfl⟩ := he
    exact part_some w0.heap.size 0 ss.length ss.length ss w rfl hr hs1 (fun j hj => by rw [Nat.zero_add]; exact hc1 j hj)
end Go.Proofs.Qxb6601937a
