import Derived.Test.Qxb6601937aRead
import Derived.Lib.SliceRun
namespace Go.Proofs.Qxb6601937a
open Go.ChangeShapes Go.WideShapes Go.ChangeAt Go.RowKit

theorem Try.info9 : (Try.prog.info? 9).map (fun i => (i.zero, i.size, i.bytes)) = some (some (.string ByteArray.empty), 1, 16) := by kernel_rfl
theorem Try.info38 : (Try.prog.info? 38).map (fun i => (i.zero, i.size, i.bytes)) = some (some (.agg #[.string ByteArray.empty, .pointer none]), 2, 24) := by kernel_rfl

/-- what a clone's row holds when the first k are copied -/
def cl (ss : List ByteArray) (k : Nat) : List Value := (ss.take k).map Value.string ++ List.replicate (ss.length - k) (.string ByteArray.empty)
theorem cl_set (ss : List ByteArray) (k : Nat) (h : k < ss.length) : (cl ss k).set k (.string (ss.getD k ByteArray.empty)) = cl ss (k + 1) := by
  unfold cl
  have e : ss.length - k = (ss.length - (k + 1)) + 1 := by omega
  rw [e, List.replicate_succ, List.set_append_right _ _ (by simp; omega), take_snoc ss k h]
  have : (List.map Value.string (List.take k ss)).length = k := by simp; omega
  rw [this]
  simp
theorem cl_zero (ss : List ByteArray) : cl ss 0 = List.replicate ss.length (.string ByteArray.empty) := by simp [cl]
theorem cl_full (ss : List ByteArray) : cl ss ss.length = ss.map Value.string := by simp [cl]
theorem cl_get (ss : List ByteArray) (k j : Nat) (hj : j < ss.length) : ∃ v, (cl ss k)[j]? = some v := by
  rw [List.getElem?_eq_getElem (by simp [cl]; omega)]; exact ⟨_, rfl⟩

set_option maxHeartbeats 800000 in
theorem clone_some (b off len cap : Nat) (ss : List ByteArray) (w : World) (hl : ss.length = len) (hr : len ≤ 16384) (hb : b < w.heap.size)
    (hc : ∀ j, j < len → w.cell? ⟨b, off + j, none⟩ = some (.string (ss.getD j ByteArray.empty))) :
    Calls Try.prog 9 #[.slice (some ⟨b, off, none⟩) len cap] w fun e w' => e = .returned (.slice (some ⟨w.heap.size, 0, none⟩) len len) ∧
      w'.ownsRow w.heap.size 9 1 (.slice (some ⟨w.heap.size, 0, none⟩) len len) len (ss.map Value.string) ∧ Below w.heap.size w w' := by
  have q22 : ∀ (w : World) (a : Option Addr) (n c n' c' : Nat), (binOp .eql 22 (.slice a n c) (.slice none n' c')).run Try.prog w = .ok (.bool a.isNone) w := fun w a n c n' c' => Lib.run_eql_slice_nil w _ _ a n c n' c' Try.underlying22
  obtain ⟨i0, hi, hz0, hz1, hz2⟩ := info_parts Try.info9
  go_enter Try.func9, Try.ntmps9
  go_wp2_with (at_make; refine wpList_make_full _ rfl _ _ 22 rfl w.heap.size 9 i0 (.string ByteArray.empty) 1 Try.underlying22 hi hz0 hz1 _ _ _ _ len rfl rfl rfl rfl (by rw [hz2]; omega) (by unfold maxLen; omega) (Nat.le_refl _) ?_; intro w1 hown hgrow; rw [show (madeCells (Value.string ByteArray.empty).cells (len * 1)).toList = cl ss 0 from by rw [cl_zero, hl, Nat.mul_one]; exact toList_madeCells_one _ _] at hown)
  have hb1 : Below w.heap.size w w1 := (Below.refl _ _).grown hgrow (Nat.le_refl _) (by simp)
  go_loopw [4] (fun i wr => ∃ k : Nat, k ≤ len ∧ i = .int .i64 k ∧ wr.ownsRow w.heap.size 9 1 (.slice (some ⟨w.heap.size, 0, none⟩) len len) len (cl ss k) ∧ Below w.heap.size w wr) (fun i _ => len - (intOf i).toNat)
  case atStart => exact ⟨0, Nat.zero_le _, rfl, hown, hb1⟩
  case round =>
    obtain ⟨k, hk, rfl, hown', hbel⟩ := hrel
    clear hown hb1 hgrow
    by_cases hlt : k < len
    · have hcx : wr.cell? ⟨b, off + k, none⟩ = some (.string (ss.getD k ByteArray.empty)) := (hbel.cell (by exact hb)).trans (hc k hlt)
      have hst := hown'.stored k (.string (ss.getD k ByteArray.empty))
      rw [cl_set ss k (by omega)] at hst
      have hbel' := hbel.setCell (p := ⟨w.heap.size, k, none⟩) (Nat.le_refl _) (.string (ss.getD k ByteArray.empty))
      have hfz : wr.frozen? ⟨w.heap.size, k, none⟩ = false := hown'.frozenAt k
      obtain ⟨v, hv⟩ : ∃ v, wr.cell? ⟨w.heap.size, k, none⟩ = some v := by rw [hown'.cellAt k (by omega)]; exact cl_get ss k k (by omega)
      have HST : Hid _ := hst
      have HB : Hid _ := hbel'
      clear hst hbel' hc
      generalize ss.getD k ByteArray.empty = s at *
      go_wp2
      go_roundw
      case rel => exact ⟨k + 1, by omega, by go_num, HST.out.1, HB.out⟩
      case measure => simp [intOf]; omega
    · have hkl : k = len := by omega
      subst hkl
      clear hc
      rw [← hl, cl_full, hl] at hown'
      go_wp2
      go_ret
      exact ⟨rfl, hown', hbel⟩

/-- the nil slice -/
theorem clone_nil (w : World) : Calls Try.prog 9 #[.slice none 0 0] w fun e w' => e = .returned (.slice none 0 0) ∧ w' = w := by
  have q22 : ∀ (w : World) (a : Option Addr) (n c n' c' : Nat), (binOp .eql 22 (.slice a n c) (.slice none n' c')).run Try.prog w = .ok (.bool a.isNone) w := fun w a n c n' c' => Lib.run_eql_slice_nil w _ _ a n c n' c' Try.underlying22
  go_enter Try.func9, Try.ntmps9
  go_wp2
  go_ret
  exact ⟨rfl, rfl⟩

/-- an empty slice that is not nil -/
theorem clone_zero (a : Addr) (cap : Nat) (w : World) : Calls Try.prog 9 #[.slice (some a) 0 cap] w fun e w' => e = .returned (.slice (some ⟨w.heap.size, 0, none⟩) 0 0) ∧ Below w.heap.size w w' := by
  have q22 : ∀ (w : World) (a : Option Addr) (n c n' c' : Nat), (binOp .eql 22 (.slice a n c) (.slice none n' c')).run Try.prog w = .ok (.bool a.isNone) w := fun w a n c n' c' => Lib.run_eql_slice_nil w _ _ a n c n' c' Try.underlying22
  have hmk : ∀ w : World, (Instr.makeSlice 22 (.int .i64 0) (.int .i64 0)).run Try.prog w = .ok (.slice (some ⟨w.heap.size, 0, none⟩) 0 0) (w.alloc (.cells #[] 9)) := fun _ => by kernel_rfl
  go_enter Try.func9, Try.ntmps9
  go_wp2
  refine wp_loop_rounds 1 ?_
  rw [rounds_succ]
  go_wp2
  go_ret
  exact ⟨rfl, (Below.refl _ _).alloc (Nat.le_refl _) _⟩

/-- what the row of fields holds when the first k have their names -/
def mk (ss : List ByteArray) (k : Nat) : List Value :=
  (List.range (ss.length * 2)).map fun j => if j % 2 = 1 then .pointer none else if j / 2 < k then .string (ss.getD (j / 2) ByteArray.empty) else .string ByteArray.empty
theorem mk_len (ss : List ByteArray) (k : Nat) : (mk ss k).length = ss.length * 2 := by simp [mk]
theorem mk_get (ss : List ByteArray) (k j : Nat) (h : j < ss.length * 2) : (mk ss k)[j]? = some (if j % 2 = 1 then .pointer none else if j / 2 < k then .string (ss.getD (j / 2) ByteArray.empty) else .string ByteArray.empty) := by
  simp only [mk, List.getElem?_map, List.getElem?_range h, Option.map_some]
theorem mk_set (ss : List ByteArray) (k : Nat) : (mk ss k).set (k * 2) (.string (ss.getD k ByteArray.empty)) = mk ss (k + 1) := by
  apply List.ext_getElem?
  intro j
  by_cases hj : j < ss.length * 2
  · rw [mk_get ss (k + 1) j hj, List.getElem?_set, mk_len]
    by_cases e : k * 2 = j
    · subst e
      rw [if_pos rfl, if_pos hj, if_neg (by omega), if_pos (by omega), Nat.mul_div_cancel _ (by decide)]
    · rw [if_neg e, mk_get ss k j hj]
      by_cases o : j % 2 = 1
      · rw [if_pos o, if_pos o]
      · rw [if_neg o, if_neg o]
        by_cases q : j / 2 < k
        · rw [if_pos q, if_pos (by omega)]
        · rw [if_neg q, if_neg (by omega)]
  · rw [List.getElem?_eq_none (by simp [mk_len]; omega), List.getElem?_eq_none (by simp [mk_len]; omega)]
theorem made_mk (ss : List ByteArray) : (madeCells (Value.agg #[.string ByteArray.empty, .pointer none]).cells (ss.length * 2)).toList = mk ss 0 := by
  apply List.ext_getElem?
  intro j
  by_cases hj : j < ss.length * 2
  · rw [mk_get ss 0 j hj]
    have : j % 2 = 0 ∨ j % 2 = 1 := by omega
    rcases this with h | h <;> simp [madeCells, hj, h, Value.cells]
  · rw [List.getElem?_eq_none (by simp [madeCells]; omega), List.getElem?_eq_none (by simp [mk_len]; omega)]

/-- WHAT ZZMakePart LEAVES: the part's box in block g, its fields' row in block f -/
structure Part (w : World) (B p f : Nat) (ss : List ByteArray) : Prop where
  box : w.cell? ⟨p, 2, none⟩ = some (.slice (some ⟨f, 0, none⟩) ss.length ss.length)
  row : w.ownsRow B 38 2 (.slice (some ⟨f, 0, none⟩) ss.length ss.length) ss.length (mk ss ss.length)
  pB : B ≤ p
  ps : p < w.heap.size

theorem part_of {w wr : World} {ss : List ByteArray} {k : Nat} (hl : ss.length = k) (hown : wr.ownsRow w.heap.size 38 2 (.slice (some ⟨w.heap.size, 0, none⟩) k k) k (mk ss k)) (hbel : Below w.heap.size w wr) :
    Part (wr.alloc (.cells #[.int .i64 0, .string ⟨#[]⟩, .slice (some ⟨w.heap.size, 0, none⟩) k k, .pointer none] 41)) w.heap.size wr.heap.size w.heap.size ss := by
  subst hl
  exact ⟨by rw [World.cell?_alloc_at _ _ _ _ rfl]; rfl, hown.alloc _, hbel.size, by simp⟩

set_option maxHeartbeats 800000 in
theorem part_some (b off len cap : Nat) (ss : List ByteArray) (w : World) (hl : ss.length = len) (hr : len ≤ 16384) (hb : b < w.heap.size)
    (hc : ∀ j, j < len → w.cell? ⟨b, off + j, none⟩ = some (.string (ss.getD j ByteArray.empty))) :
    Calls Try.prog 10 #[.slice (some ⟨b, off, none⟩) len cap] w fun e w' => ∃ p, e = .returned (.pointer (some ⟨p, 0, none⟩)) ∧ Part w' w.heap.size p w.heap.size ss ∧ Below w.heap.size w w' := by
  obtain ⟨i0, hi, hz0, hz1, hz2⟩ := info_parts Try.info38
  go_enter Try.func10, Try.ntmps10
  go_wp2_with (at_make; refine wpList_make_full _ rfl _ _ 36 rfl w.heap.size 38 i0 (.agg #[.string ByteArray.empty, .pointer none]) 2 Try.underlying36 hi hz0 hz1 _ _ _ _ len rfl rfl rfl rfl (by rw [hz2]; omega) (by unfold maxLen; omega) (Nat.le_refl _) ?_; intro w1 hown hgrow; rw [show (madeCells (Value.agg #[.string ByteArray.empty, .pointer none]).cells (len * 2)).toList = mk ss 0 from by rw [← hl]; exact made_mk ss] at hown)
  have hb1 : Below w.heap.size w w1 := (Below.refl _ _).grown hgrow (Nat.le_refl _) (by simp)
  go_loopw [4] (fun i wr => ∃ k : Nat, k ≤ len ∧ i = .int .i64 k ∧ wr.ownsRow w.heap.size 38 2 (.slice (some ⟨w.heap.size, 0, none⟩) len len) len (mk ss k) ∧ Below w.heap.size w wr) (fun i _ => len - (intOf i).toNat)
  case atStart => exact ⟨0, Nat.zero_le _, rfl, hown, hb1⟩
  case round =>
    obtain ⟨k, hk, rfl, hown', hbel⟩ := hrel
    clear hown hb1 hgrow
    by_cases hlt : k < len
    · have hcx : wr.cell? ⟨b, off + k, none⟩ = some (.string (ss.getD k ByteArray.empty)) := (hbel.cell (by exact hb)).trans (hc k hlt)
      have hst := hown'.stored (k * 2) (.string (ss.getD k ByteArray.empty))
      rw [mk_set ss k] at hst
      have hbel' := hbel.setCell (p := ⟨w.heap.size, k * 2, none⟩) (Nat.le_refl _) (.string (ss.getD k ByteArray.empty))
      have hfz : wr.frozen? ⟨w.heap.size, k * 2, none⟩ = false := hown'.frozenAt (k * 2)
      obtain ⟨v, hv⟩ : ∃ v, wr.cell? ⟨w.heap.size, k * 2, none⟩ = some v := by rw [hown'.cellAt (k * 2) (by omega), mk_get ss k (k * 2) (by omega)]; exact ⟨_, rfl⟩
      have HST : Hid _ := hst
      have HB : Hid _ := hbel'
      clear hst hbel' hc
      generalize ss.getD k ByteArray.empty = s at *
      go_wp2
      go_roundw
      case rel => exact ⟨k + 1, by omega, by go_num, HST.out.1, HB.out⟩
      case measure => simp [intOf]; omega
    · have hkl : k = len := by omega
      subst hkl
      clear hc
      go_wp2
      go_ret
      exact ⟨_, rfl, part_of hl hown' hbel, hbel.alloc hbel.size _⟩

/-- an empty slice, nil or not -/
theorem part_zero (a : Option Addr) (cap : Nat) (w : World) : Calls Try.prog 10 #[.slice a 0 cap] w fun e w' => ∃ p, e = .returned (.pointer (some ⟨p, 0, none⟩)) ∧ Part w' w.heap.size p w.heap.size [] ∧ Below w.heap.size w w' := by
  have hmk : ∀ w : World, (Instr.makeSlice 36 (.int .i64 0) (.int .i64 0)).run Try.prog w = .ok (.slice (some ⟨w.heap.size, 0, none⟩) 0 0) (w.alloc (.cells #[] 38)) := fun _ => by kernel_rfl
  go_enter Try.func10, Try.ntmps10
  go_wp2
  refine wp_loop_rounds 1 ?_
  rw [rounds_succ]
  go_wp2
  go_ret
  refine ⟨w.heap.size + 1, rfl, ?_, ?_⟩
  · have h1 := World.ownsRow_lit (base := w.heap.size) (e := 38) (size := 2) w #[] 0 (Nat.le_refl _) (Nat.zero_le _) rfl
    have h2 : Below w.heap.size w (w.alloc (.cells #[] 38)) := (Below.refl _ _).alloc (Nat.le_refl _) _
    have h3 := part_of (ss := []) rfl h1 h2
    rw [show (w.alloc (.cells #[] 38)).heap.size = w.heap.size + 1 from by simp] at h3
    exact h3
  · exact ((Below.refl _ _).alloc (Nat.le_refl _) _).alloc (by simp) _
end Go.Proofs.Qxb6601937a
