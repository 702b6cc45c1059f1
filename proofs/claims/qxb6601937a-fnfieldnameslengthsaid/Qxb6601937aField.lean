import Derived.Test.Qxb6601937aMake
import Derived.LaidEqlPtr
namespace Go.Proofs.Qxb6601937a
open Go.ChangeShapes Go.WideShapes Go.ChangeAt Go.RowKit

/-- does the i'th name read as nm? -/
def same (ss : List ByteArray) (nm : ByteArray) (j : Nat) : Bool := (ss.getD j ByteArray.empty).toList == nm.toList

theorem Part.cell {w : World} {B p f : Nat} {ss : List ByteArray} (h : Part w B p f ss) (j : Nat) (hj : j < ss.length) : w.cell? ⟨f, j * 2, none⟩ = some (.string (ss.getD j ByteArray.empty)) := by
  rw [h.row.cellAt (j * 2) (by omega), mk_get _ _ _ (by omega), if_neg (by omega), if_pos (by omega), Nat.mul_div_cancel _ (by decide)]

/-- the least index from i on that bears nm, or -1 -/
def Want (ss : List ByteArray) (nm : ByteArray) (i : Nat) (v : Int) : Prop :=
  (v = -1 ∧ ∀ j, i ≤ j → j < ss.length → same ss nm j = false) ∨
  ∃ m : Nat, v = m ∧ i ≤ m ∧ m < ss.length ∧ same ss nm m = true ∧ ∀ j, i ≤ j → j < m → same ss nm j = false
theorem want_end (ss : List ByteArray) (nm : ByteArray) : Want ss nm ss.length (-1) := .inl ⟨rfl, fun _ _ _ => by omega⟩
theorem want_hit {ss : List ByteArray} {nm : ByteArray} {i : Nat} (hi : i < ss.length) (h : same ss nm i = true) : Want ss nm i (i : Int) :=
  .inr ⟨i, rfl, Nat.le_refl _, hi, h, fun _ _ _ => by omega⟩
theorem want_miss {ss : List ByteArray} {nm : ByteArray} {i : Nat} {v : Int} (h : same ss nm i = false) (hw : Want ss nm (i + 1) v) : Want ss nm i v := by
  have step : ∀ (P : Nat → Prop), (∀ j, i + 1 ≤ j → P j → same ss nm j = false) → ∀ j, i ≤ j → P j → same ss nm j = false := by
    intro P hP j h1 h2
    by_cases e : j = i
    · subst e; exact h
    · exact hP j (by omega) h2
  rcases hw with ⟨rfl, hn⟩ | ⟨m, rfl, h1, h2, h3, h4⟩
  · exact .inl ⟨rfl, step _ hn⟩
  · exact .inr ⟨m, rfl, by omega, h2, h3, step _ h4⟩
theorem want_bounds {ss : List ByteArray} {nm : ByteArray} {i : Nat} {v : Int} (hw : Want ss nm i v) : -1 ≤ v ∧ v < ss.length ∨ v = -1 := by
  rcases hw with ⟨rfl, _⟩ | ⟨m, rfl, _, h2, _⟩
  · exact .inr rfl
  · exact .inl ⟨by omega, by omega⟩

/-- what 'field' answers -/
def Found (ss : List ByteArray) (nm : ByteArray) (f : Nat) (e : Ending) : Prop :=
  (e = .returned (.pointer none) ∧ Want ss nm 0 (-1)) ∨ ∃ i : Nat, i < ss.length ∧ e = .returned (.pointer (some ⟨f, i * 2, none⟩)) ∧ Want ss nm 0 i
/-- there is but one -/
theorem want_one {ss : List ByteArray} {nm : ByteArray} {u v : Int} (hu : Want ss nm 0 u) (hv : Want ss nm 0 v) : u = v := by
  rcases hu with ⟨rfl, hn⟩ | ⟨m, rfl, _, h2, h3, h4⟩ <;> rcases hv with ⟨rfl, hn'⟩ | ⟨m', rfl, _, h2', h3', h4'⟩
  · rfl
  · rw [hn m' (by omega) h2'] at h3'; cases h3'
  · rw [hn' m (by omega) h2] at h3; cases h3
  · by_cases a : m < m'
    · rw [h4' m (by omega) a] at h3; cases h3
    · by_cases b : m' < m
      · rw [h4 m' (by omega) b] at h3'; cases h3'
      · congr 1; omega

set_option maxHeartbeats 800000 in
theorem field_any (p f B : Nat) (ss : List ByteArray) (nm : ByteArray) (w : World) (hr : ss.length ≤ 16384) (hp : Part w B p f ss) :
    Calls Try.prog 18 #[.pointer (some ⟨p, 0, none⟩), .string nm] w fun e w' => Found ss nm f e ∧ w' = w := by
  have hbox := hp.box
  have hcell := hp.cell
  clear hp
  go_enter Try.func18, Try.ntmps18
  go_wp2
  go_loop [11] (fun i => ∃ k : Nat, k ≤ ss.length ∧ i = .int .i64 k ∧ ∀ j, j < k → same ss nm j = false) (fun i => ss.length - (intOf i).toNat)
  case atStart => exact ⟨0, Nat.zero_le _, rfl, by omega⟩
  case round =>
    obtain ⟨k, hk, rfl, hno⟩ := hrel
    have HNO : Hid (∀ j, j < k → same ss nm j = false) := hno
    clear hno
    by_cases hlt : k < ss.length
    · have hcx := hcell k hlt
      clear hcell
      have HS : Hid (same ss nm k = ((ss.getD k ByteArray.empty).toList == nm.toList)) := rfl
      generalize ss.getD k ByteArray.empty = s at *
      go_wp2
      · have hs : (s.toList == nm.toList) = true := by assumption
        go_ret
        exact ⟨.inr ⟨k, hlt, rfl, .inr ⟨k, rfl, Nat.zero_le _, hlt, HS.out.trans hs, fun j _ hj => HNO.out j hj⟩⟩, rfl⟩
      · have hs : (s.toList == nm.toList) = false := by assumption
        go_round
        case rel =>
          refine ⟨k + 1, by omega, by go_num, fun j hj => ?_⟩
          by_cases e : j = k
          · subst e; exact HS.out.trans hs
          · exact HNO.out j (by omega)
        case measure => simp [intOf]; omega
    · clear hcell
      go_wp2
      go_ret
      exact ⟨.inl ⟨rfl, .inl ⟨rfl, fun j _ hj => HNO.out j (by omega)⟩⟩, rfl⟩

theorem zfield_any (p f B : Nat) (ss : List ByteArray) (nm : ByteArray) (w : World) (hr : ss.length ≤ 16384) (hp : Part w B p f ss) :
    Calls Try.prog 11 #[.pointer (some ⟨p, 0, none⟩), .string nm] w fun e w' => Found ss nm f e ∧ w' = w := by
  go_enter Try.func11, Try.ntmps11
  go_wp2_with fail
  refine (field_any p f B ss nm _ hr hp).mono ?_
  rintro e w' ⟨he, rfl⟩
  rcases he with ⟨rfl, h⟩ | ⟨i, hi, rfl, h⟩
  · go_wp2
    go_ret
    exact ⟨.inl ⟨rfl, h⟩, rfl⟩
  · go_wp2
    go_ret
    exact ⟨.inr ⟨i, hi, rfl, h⟩, rfl⟩

theorem zat_any (p f B : Nat) (ss : List ByteArray) (i : Nat) (w : World) (hi : i < ss.length) (hp : Part w B p f ss) :
    Calls Try.prog 12 #[.pointer (some ⟨p, 0, none⟩), .int .i64 i] w fun e w' => e = .returned (.pointer (some ⟨f, i * 2, none⟩)) ∧ w' = w := by
  have hbox := hp.box
  clear hp
  go_enter Try.func12, Try.ntmps12
  go_wp2
  go_ret
  exact ⟨rfl, rfl⟩
end Go.Proofs.Qxb6601937a
