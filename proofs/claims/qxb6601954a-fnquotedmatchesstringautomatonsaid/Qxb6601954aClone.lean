import Derived.Test.Qxb6601954aZZInt
namespace Go.Proofs.Qxb6601954a
open Go.ChangeShapes Go.WideShapes Go.ChangeAt Go.RowKit

theorem Try.info5 : (Try.prog.info? 5).map (fun i => (i.zero, i.size, i.bytes)) = some (some (.int .u8 0), 1, 1) := by kernel_rfl

def cl (zs : List Int) (k : Nat) : List Value := (zs.take k).map (Value.int .u8) ++ List.replicate (zs.length - k) (.int .u8 0)
theorem take_snoc (zs : List Int) (k : Nat) (h : k < zs.length) : zs.take (k + 1) = zs.take k ++ [zs.getD k 0] := by
  rw [List.take_succ_eq_append_getElem h]; simp [List.getD, h]
theorem cl_set (zs : List Int) (k : Nat) (h : k < zs.length) : (cl zs k).set k (.int .u8 (zs.getD k 0)) = cl zs (k + 1) := by
  unfold cl
  have e : zs.length - k = (zs.length - (k + 1)) + 1 := by omega
  rw [e, List.replicate_succ, List.set_append_right _ _ (by simp; omega), take_snoc zs k h]
  have : (List.map (Value.int .u8) (List.take k zs)).length = k := by simp; omega
  rw [this]
  simp
theorem cl_zero (zs : List Int) : cl zs 0 = List.replicate zs.length (.int .u8 0) := by simp [cl]
theorem cl_full (zs : List Int) : cl zs zs.length = zs.map (Value.int .u8) := by simp [cl]
theorem cl_get (zs : List Int) (k j : Nat) (hj : j < zs.length) : ∃ v, (cl zs k)[j]? = some v := by
  rw [List.getElem?_eq_getElem (by simp [cl]; omega)]; exact ⟨_, rfl⟩

set_option maxHeartbeats 800000 in
theorem clone_some (b off len cap : Nat) (zs : List Int) (w : World) (hl : zs.length = len) (hr : len ≤ 1048576) (hb : b < w.heap.size)
    (hc : ∀ j, j < len → w.cell? ⟨b, off + j, none⟩ = some (.int .u8 (zs.getD j 0))) :
    Calls Try.prog 9 #[.slice (some ⟨b, off, none⟩) len cap] w fun e w' => e = .returned (.slice (some ⟨w.heap.size, 0, none⟩) len len) ∧
      w'.ownsRow w.heap.size 5 1 (.slice (some ⟨w.heap.size, 0, none⟩) len len) len (zs.map (Value.int .u8)) ∧ Below w.heap.size w w' := by
  have q22 : ∀ (w : World) (a : Option Addr) (n c n' c' : Nat), (binOp .eql 22 (.slice a n c) (.slice none n' c')).run Try.prog w = .ok (.bool a.isNone) w := fun w a n c n' c' => Lib.run_eql_slice_nil w _ _ a n c n' c' Try.underlying22
  obtain ⟨i0, hi, hz0, hz1, hz2⟩ := info_parts Try.info5
  go_enter Try.func9, Try.ntmps9
  go_wp2_with (at_make; refine wpList_make_full _ rfl _ _ 22 rfl w.heap.size 5 i0 (.int .u8 0) 1 Try.underlying22 hi hz0 hz1 _ _ _ _ len rfl rfl rfl rfl (by rw [hz2]; omega) (by unfold maxLen; omega) (Nat.le_refl _) ?_; intro w1 hown hgrow; rw [show (madeCells (Value.int .u8 0).cells (len * 1)).toList = cl zs 0 from by rw [cl_zero, hl, Nat.mul_one]; exact toList_madeCells_one _ _] at hown)
  have hb1 : Below w.heap.size w w1 := (Below.refl _ _).grown hgrow (Nat.le_refl _) (by simp)
  go_loopw [4] (fun i wr => ∃ k : Nat, k ≤ len ∧ i = .int .i64 k ∧ wr.ownsRow w.heap.size 5 1 (.slice (some ⟨w.heap.size, 0, none⟩) len len) len (cl zs k) ∧ Below w.heap.size w wr) (fun i _ => len - (intOf i).toNat)
  case atStart => exact ⟨0, Nat.zero_le _, rfl, hown, hb1⟩
  case round =>
    obtain ⟨k, hk, rfl, hown', hbel⟩ := hrel
    clear hown hb1 hgrow
    by_cases hlt : k < len
    · have hcx : wr.cell? ⟨b, off + k, none⟩ = some (.int .u8 (zs.getD k 0)) := (hbel.cell (by exact hb)).trans (hc k hlt)
      have hst := hown'.stored k (.int .u8 (zs.getD k 0))
      rw [cl_set zs k (by omega)] at hst
      have hbel' := hbel.setCell (p := ⟨w.heap.size, k, none⟩) (Nat.le_refl _) (.int .u8 (zs.getD k 0))
      have hfz : wr.frozen? ⟨w.heap.size, k, none⟩ = false := hown'.frozenAt k
      obtain ⟨v, hv⟩ : ∃ v, wr.cell? ⟨w.heap.size, k, none⟩ = some v := by rw [hown'.cellAt k (by omega)]; exact cl_get zs k k (by omega)
      have HST := hid hst
      have HB := hid hbel'
      clear hst hbel' hc
      generalize zs.getD k 0 = s at *
      go_wp2
      go_roundw
      case rel => exact ⟨k + 1, by omega, by go_num, HST.out.1, HB.out⟩
      case measure => simp [intOf]; omega
    · have hkl : k = len := by omega
      subst hkl
      clear hc
      rw [← hl, cl_full, hl] at hown'
      go_wp2
      go_ret
      exact ⟨rfl, hown', hbel⟩

theorem clone_nil (w : World) : Calls Try.prog 9 #[.slice none 0 0] w fun e w' => e = .returned (.slice none 0 0) ∧ w' = w := by
  have q22 : ∀ (w : World) (a : Option Addr) (n c n' c' : Nat), (binOp .eql 22 (.slice a n c) (.slice none n' c')).run Try.prog w = .ok (.bool a.isNone) w := fun w a n c n' c' => Lib.run_eql_slice_nil w _ _ a n c n' c' Try.underlying22
  go_enter Try.func9, Try.ntmps9
  go_wp2
  go_ret
  exact ⟨rfl, rfl⟩

theorem clone_zero (a : Addr) (cap : Nat) (w : World) : Calls Try.prog 9 #[.slice (some a) 0 cap] w fun e w' => e = .returned (.slice (some ⟨w.heap.size, 0, none⟩) 0 0) ∧ Below w.heap.size w w' := by
  have q22 : ∀ (w : World) (a : Option Addr) (n c n' c' : Nat), (binOp .eql 22 (.slice a n c) (.slice none n' c')).run Try.prog w = .ok (.bool a.isNone) w := fun w a n c n' c' => Lib.run_eql_slice_nil w _ _ a n c n' c' Try.underlying22
  have hmk : ∀ w : World, (Instr.makeSlice 22 (.int .i64 0) (.int .i64 0)).run Try.prog w = .ok (.slice (some ⟨w.heap.size, 0, none⟩) 0 0) (w.alloc (.cells #[] 5)) := fun _ => by kernel_rfl
  go_enter Try.func9, Try.ntmps9
  go_wp2
  refine wp_loop_rounds 1 ?_
  rw [rounds_succ]
  go_wp2
  go_ret
  exact ⟨rfl, (Below.refl _ _).alloc (Nat.le_refl _) _⟩

/-- what a clone is -/
def IsClone (w w' : World) (zs : List Int) (e : Ending) : Prop :=
  (zs = [] ∧ ∃ a c, e = .returned (.slice a 0 c) ∧ (a = none → c = 0)) ∨
  (0 < zs.length ∧ e = .returned (.slice (some ⟨w.heap.size, 0, none⟩) zs.length zs.length) ∧ w.heap.size < w'.heap.size ∧ ∀ j, j < zs.length → w'.cell? ⟨w.heap.size, j, none⟩ = some (.int .u8 (zs.getD j 0)))

theorem clone_any (a : Option Addr) (len cap : Nat) (zs : List Int) (w : World) (h : Row w a len zs) (hn : a = none → len = 0 ∧ cap = 0) (hr : len ≤ 1048576) :
    Calls Try.prog 9 #[.slice a len cap] w fun e w' => IsClone w w' zs e ∧ Below w.heap.size w w' := by
  obtain ⟨hl, _, h3⟩ := h
  by_cases h0 : len = 0
  · subst h0
    have e0 := List.eq_nil_of_length_eq_zero hl
    subst e0
    cases a with
    | none =>
      rw [(hn rfl).2]
      refine (clone_nil w).mono ?_
      rintro e w' ⟨rfl, rfl⟩
      exact ⟨.inl ⟨rfl, _, _, rfl, fun _ => rfl⟩, Below.refl _ _⟩
    | some a =>
      refine (clone_zero a cap w).mono ?_
      rintro e w' ⟨rfl, hb⟩
      exact ⟨.inl ⟨rfl, _, _, rfl, fun _ => rfl⟩, hb⟩
  · rcases h3 with h3 | ⟨b, off, rfl, hb, hc⟩
    · exact absurd h3 h0
    refine (clone_some b off len cap zs w hl hr hb hc).mono ?_
    rintro e w' ⟨rfl, ho, hbel⟩
    subst hl
    refine ⟨.inr ⟨by omega, rfl, (ho.lt w.heap.size rfl).2, fun j hj => ?_⟩, hbel⟩
    rw [ho.cellAt j (by omega), List.getElem?_map, List.getElem?_eq_getElem hj]
    simp [List.getD, hj]

/-- a clone's row -/
theorem row_clone {w' : World} {zs : List Int} {g : Nat} (hz : ∀ j, 0 ≤ zs.getD j 0 ∧ zs.getD j 0 ≤ 255) (hg : g < w'.heap.size) (hc : ∀ j, j < zs.length → w'.cell? ⟨g, j, none⟩ = some (.int .u8 (zs.getD j 0))) :
    Row w' (some ⟨g, 0, none⟩) zs.length zs :=
  ⟨rfl, hz, .inr ⟨g, 0, rfl, hg, fun j hj => by rw [Nat.zero_add]; exact hc j hj⟩⟩
theorem row_nil (w : World) (a : Option Addr) : Row w a 0 [] := ⟨rfl, fun j => by simp, .inl rfl⟩
end Go.Proofs.Qxb6601954a
