import Derived.Test.Qxb6601937aMake
namespace Go.Proofs.Qxb6601937a
open Go.ChangeShapes Go.WideShapes Go.ChangeAt Go.RowKit

/-- the strings of a slice that is read: none; or a row of cells -/
def IsRow (w : World) (a : Option Addr) (len cap : Nat) (ss : List ByteArray) : Prop :=
  ss.length = len ∧ ((len = 0 ∧ (a = none → cap = 0)) ∨
    (0 < len ∧ ∃ b off, a = some ⟨b, off, none⟩ ∧ b < w.heap.size ∧ ∀ j, j < len → w.cell? ⟨b, off + j, none⟩ = some (.string (ss.getD j ByteArray.empty))))

theorem zz7_any (a : Option Addr) (len cap : Nat) (ss : List ByteArray) (nm : ByteArray) (w : World) (h : IsRow w a len cap ss) (hr : len ≤ 140737488351232) (hn : nm.size ≤ maxLen) :
    Calls Try.prog 7 #[.slice a len cap, .string nm] w fun e w' => RetBool e ∧ w' = w := by
  rcases h with ⟨hl, ⟨rfl, _⟩ | ⟨_, b, off, rfl, _, hc⟩⟩
  · exact zz7_zero a cap nm w hn
  · exact zz7_some b off len cap ss nm w hr hn hc

theorem names_any (a : Option Addr) (len cap : Nat) (ss : List ByteArray) (w : World) (h : IsRow w a len cap ss) (hr : len ≤ 140737488351232) :
    Calls Try.prog 8 #[.slice a len cap] w fun e w' => ∃ n : Int, e = .returned (.int .i64 n) ∧ 0 ≤ n ∧ n ≤ 2097168 ∧ (n ≤ 1048576 → n = total ss + 16 * len) ∧ w' = w := by
  rcases h with ⟨hl, ⟨rfl, _⟩ | ⟨_, b, off, rfl, _, hc⟩⟩
  · refine (names_zero a cap w).mono ?_
    rintro e w' ⟨rfl, rfl⟩
    rw [List.eq_nil_of_length_eq_zero hl]
    exact ⟨0, rfl, by omega, by omega, fun _ => rfl, rfl⟩
  · exact names_some b off len cap ss w hl hr hc

/-- what a clone is -/
def IsClone (w w' : World) (ss : List ByteArray) (e : Ending) : Prop :=
  (ss = [] ∧ ∃ a c, e = .returned (.slice a 0 c)) ∨
  (0 < ss.length ∧ e = .returned (.slice (some ⟨w.heap.size, 0, none⟩) ss.length ss.length) ∧ w.heap.size < w'.heap.size ∧ ∀ j, j < ss.length → w'.cell? ⟨w.heap.size, j, none⟩ = some (.string (ss.getD j ByteArray.empty)))

theorem clone_any (a : Option Addr) (len cap : Nat) (ss : List ByteArray) (w : World) (h : IsRow w a len cap ss) (hr : len ≤ 16384) :
    Calls Try.prog 9 #[.slice a len cap] w fun e w' => IsClone w w' ss e ∧ Below w.heap.size w w' := by
  rcases h with ⟨hl, ⟨rfl, h0⟩ | ⟨hp, b, off, rfl, hb, hc⟩⟩
  · have e0 := List.eq_nil_of_length_eq_zero hl
    subst e0
    cases a with
    | none =>
      rw [h0 rfl]
      refine (clone_nil w).mono ?_
      rintro e w' ⟨rfl, rfl⟩
      exact ⟨.inl ⟨rfl, _, _, rfl⟩, Below.refl _ _⟩
    | some a =>
      refine (clone_zero a cap w).mono ?_
      rintro e w' ⟨rfl, hb⟩
      exact ⟨.inl ⟨rfl, _, _, rfl⟩, hb⟩
  · refine (clone_some b off len cap ss w hl hr hb hc).mono ?_
    rintro e w' ⟨rfl, ho, hbel⟩
    subst hl
    refine ⟨.inr ⟨hp, rfl, (ho.lt w.heap.size rfl).2, fun j hj => ?_⟩, hbel⟩
    rw [ho.cellAt j (by omega), List.getElem?_map, List.getElem?_eq_getElem hj]
    simp [List.getD, hj]
end Go.Proofs.Qxb6601937a
