import Derived.Test.Qxb6601954aDec
import Derived.Test.Qxb6601954aPlain4
namespace Go.Proofs.Qxb6601954a
open Go.ChangeShapes Go.WideShapes Go.ChangeAt Go.RowKit

def RetBool (e : Ending) : Prop := ∃ r : Bool, e = .returned (.bool r)

/-- from the reading of an argument to its row -/
theorem row_of {w : World} {a : Option Addr} {len cap : Nat} {zs : List Int}
    (h : (a = none ∧ len = 0 ∧ cap = 0 ∧ zs = []) ∨ ∃ x, a = some x ∧ len ≤ cap ∧ cap ≤ maxLen ∧ zs.length = cap ∧ (∀ i, i < zs.length → w.cell? (x.add i) = some (.int .u8 (zs.getD i 0))) ∧ ∀ n ∈ zs, (Lit.int .u8 n).wf = true) :
    ∃ zs', Row w a len zs' ∧ (a = none → len = 0 ∧ cap = 0) ∧ len ≤ maxLen := by
  rcases h with ⟨rfl, rfl, rfl, rfl⟩ | ⟨x, rfl, hl, hm, hz, hc, hw⟩
  · exact ⟨[], row_nil w none, fun _ => ⟨rfl, rfl⟩, Nat.zero_le _⟩
  · have hget : ∀ j, j < len → (zs.take len).getD j 0 = zs.getD j 0 := fun j hj => by simp [List.getD, hj]
    refine ⟨zs.take len, ⟨by simp; omega, fun j => ?_, ?_⟩, (fun h => by cases h), Nat.le_trans hl hm⟩
    · by_cases hj : j < len
      · rw [hget j hj]
        have hjz : j < zs.length := by omega
        have e : zs.getD j 0 = zs[j] := by simp [List.getD, hjz]
        have := bounds_u8 (hw zs[j] (List.getElem_mem hjz))
        rw [e]
        omega
      · have : (zs.take len).getD j 0 = 0 := by rw [List.getD, List.getElem?_eq_none (by simp; omega)]; rfl
        omega
    · by_cases h0 : len = 0
      · exact .inl h0
      · obtain ⟨b, off, spot⟩ := x
        have h1 := hc 0 (by omega)
        have hspot : spot = none := by simpa [Addr.add] using World.cell?_spot h1
        subst hspot
        refine .inr ⟨b, off, rfl, World.block_lt_of_cell? w _ h1, fun j hj => ?_⟩
        rw [← add_plain, hc j (by omega), hget j hj]

theorem zz12_any (v : Int) (a : Option Addr) (len cap : Nat) (w : World) (hm : len ≤ maxLen) :
    Calls Try.prog 12 #[.int .i64 v, .slice a len cap] w fun e w' => RetBool e ∧ w' = w := by
  unfold maxLen at hm
  go_enter Try.func12, Try.ntmps12
  go_wp2
  all_goals (go_ret; exact ⟨⟨_, rfl⟩, rfl⟩)

theorem dig_any (c : Int) (w : World) : Calls Try.prog 13 #[.int .u8 c] w fun e w' => e = .returned (.bool (isDig c)) ∧ w' = w := by
  by_cases h1 : 48 ≤ c
  · by_cases h2 : c ≤ 57
    · go_enter Try.func13, Try.ntmps13
      go_wp2
      go_ret
      exact ⟨by rw [(isDig_iff c).2 ⟨h1, h2⟩]; rfl, rfl⟩
    · have hd : decide (c ≤ 57) = false := by simp; omega
      go_enter Try.func13, Try.ntmps13
      go_wp2
      go_ret
      exact ⟨by rw [(isDig_not c).2 (by omega)]; rfl, rfl⟩
  · have hd : decide (48 ≤ c) = false := by simp; omega
    go_enter Try.func13, Try.ntmps13
    go_wp2
    go_ret
    exact ⟨by rw [(isDig_not c).2 (by omega)]; rfl, rfl⟩

theorem dec_any (v : Int) (w : World) (h1 : -9223372036854775808 ≤ v) (h2 : v ≤ 9223372036854775807) :
    Calls Try.prog 14 #[.int .i64 v] w fun e w' => ∃ (neg : Bool) (U : Nat), (U : Int) ≤ lim neg ∧ v = (if neg then -(U : Int) else U) ∧ DecEnd neg U w e w' := by
  by_cases h : v < 0
  · refine (dec_neg v (-v).toNat w h h1 (by omega)).mono ?_
    intro e w' he
    exact ⟨true, (-v).toNat, by show _ ≤ (9223372036854775808 : Int); omega, by rw [if_pos rfl]; omega, he⟩
  · refine (dec_pos v v.toNat w (by omega) h2 (by omega)).mono ?_
    intro e w' he
    exact ⟨false, v.toNat, by show _ ≤ (9223372036854775807 : Int); omega, by rw [if_neg (by simp)]; omega, he⟩

theorem zint_back (neg : Bool) (U N : Nat) (Z : List Int) (v : Int) (hd : Digits U N) (hU : (U : Int) ≤ lim neg) (hZ : 0 < Z.length → ¬ (48 ≤ Z.getD 0 0 ∧ Z.getD 0 0 ≤ 57)) (hv : v = (if neg then -(U : Int) else U))
    (a : Option Addr) (n cap T : Nat) (w : World) (hn : n = (whole neg U N Z).length) (hT : T = (txt neg U N).length) (h : Row w a (whole neg U N Z).length (whole neg U N Z)) (hm : n ≤ 8388608) :
    Calls Try.prog 10 #[.slice a n cap, .int .i64 0] w fun e w' => e = .returned (.tuple #[.int .i64 v, .bool true, .int .i64 (2 + (T : Int))]) ∧ Below w.heap.size w w' := by
  obtain ⟨r1, r2, r3, r4⟩ := readback neg U N Z hd hU hZ
  subst hn
  have := zint_any (whole neg U N Z).length cap 0 a (whole neg U N Z) w h hm
  rw [r1, r2, r3, r4, ← hv, ← hT] at this
  have e : ((2 + T : Nat) : Int) = 2 + (T : Int) := by omega
  rw [e] at this
  exact this
end Go.Proofs.Qxb6601954a
