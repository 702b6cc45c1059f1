import Derived.Test.Qxb6601954aInt
namespace Go.Proofs.Qxb6601954a
open Go.ChangeShapes Go.WideShapes Go.ChangeAt Go.RowKit

set_option maxHeartbeats 800000 in
/-- behind the white space there is nothing -/
theorem int_end (sb b off len cap p q : Nat) (zs : List Int) (w : World) (hl : zs.length = len) (hm : len ≤ 8388608) (hb : b < sb)
    (hs : Sc w sb (some ⟨b, off, none⟩) len cap p) (hc : ∀ j, j < len → w.cell? ⟨b, off + j, none⟩ = some (.int .u8 (zs.getD j 0)))
    (HQ : Hid (skip zs p = q)) (hq : len ≤ q) :
    Calls Try.prog 25 #[.pointer (some ⟨sb, 0, none⟩)] w fun e w' => IntEnd zs q sb (some ⟨b, off, none⟩) len cap w e w' := by
  have hst := (neg_no zs q (fun h => by omega)).2
  have hok : Hid (okAt zs q = false) := ok_none zs q (by rw [hst]; exact run_end _ _ _ (by omega))
  go_enter Try.func25, Try.ntmps25
  go_wp2_with fail
  refine (skip_some sb b off len cap p zs w hl (by omega) hb hs hc).mono ?_
  rintro e w1 ⟨rfl, hs1, hb1⟩
  rw [HQ.out] at hs1
  have hd := hs1.data
  have hpo := hs1.pos
  have HS := hid hs1
  have hli : decide ((q : Int) < (len : Int)) = false := by simp; omega
  clear hs1 hs hc hst
  go_wp2
  refine wp_loop_rounds 1 ?_
  rw [rounds_succ]
  go_wp2
  go_ret2
  exact end_no hok.out HS.out hb1

set_option maxHeartbeats 800000 in
/-- no data -/
theorem int_zero (sb cap p : Nat) (a : Option Addr) (w : World) (hs : Sc w sb a 0 cap p) :
    Calls Try.prog 25 #[.pointer (some ⟨sb, 0, none⟩)] w fun e w' => IntEnd [] p sb a 0 cap w e w' := by
  have hst := (neg_no [] p (fun h => by simp at h)).2
  have hok : Hid (okAt [] p = false) := ok_none [] p (by rw [hst]; exact run_end _ _ _ (by simp))
  go_enter Try.func25, Try.ntmps25
  go_wp2_with fail
  refine (skip_zero sb cap p a w hs).mono ?_
  rintro e w1 ⟨rfl, hs1, hb1⟩
  have hd := hs1.data
  have hpo := hs1.pos
  have HS := hid hs1
  have hli : decide ((p : Int) < (0 : Int)) = false := by simp
  clear hs1 hs hst
  go_wp2
  refine wp_loop_rounds 1 ?_
  rw [rounds_succ]
  go_wp2
  go_ret2
  exact end_no hok.out HS.out hb1

/-- the bytes of a slice: none; or a row of cells -/
def Row (w : World) (a : Option Addr) (len : Nat) (zs : List Int) : Prop :=
  zs.length = len ∧ (∀ j, 0 ≤ zs.getD j 0 ∧ zs.getD j 0 ≤ 255) ∧ (len = 0 ∨ ∃ b off, a = some ⟨b, off, none⟩ ∧ b < w.heap.size ∧ ∀ j, j < len → w.cell? ⟨b, off + j, none⟩ = some (.int .u8 (zs.getD j 0)))

theorem Row.below {w w' : World} {a : Option Addr} {len : Nat} {zs : List Int} (h : Row w a len zs) (hb : Below w.heap.size w w') : Row w' a len zs := by
  obtain ⟨h1, h2, h3⟩ := h
  refine ⟨h1, h2, ?_⟩
  rcases h3 with h3 | ⟨b, off, rfl, hlt, hc⟩
  · exact .inl h3
  · exact .inr ⟨b, off, rfl, Nat.lt_of_lt_of_le hlt hb.size, fun j hj => (hb.cell hlt).trans (hc j hj)⟩

theorem int_any (sb len cap p : Nat) (a : Option Addr) (zs : List Int) (w0 w : World) (h : Row w0 a len zs) (hsb : sb = w0.heap.size) (hb : Below sb w0 w) (hm : len ≤ 8388608) (hs : Sc w sb a len cap p) :
    Calls Try.prog 25 #[.pointer (some ⟨sb, 0, none⟩)] w fun e w' => IntEnd zs (skip zs p) sb a len cap w e w' := by
  obtain ⟨hl, hz, h3⟩ := h
  rcases h3 with rfl | ⟨b, off, rfl, hlt, hc⟩
  · have e := List.eq_nil_of_length_eq_zero hl
    subst e
    rw [skip_end [] p (by simp)]
    exact int_zero sb cap p a w hs
  · have hc' : ∀ j, j < len → w.cell? ⟨b, off + j, none⟩ = some (.int .u8 (zs.getD j 0)) := fun j hj => (hb.cell (by rw [hsb]; exact hlt)).trans (hc j hj)
    by_cases hq : skip zs p < len
    · by_cases hn : zs.getD (skip zs p) 0 = 45
      · exact int_neg sb b off len cap p _ zs w hl hm (by omega) hz hs hc' (hid rfl) hq hn
      · exact int_pos sb b off len cap p _ zs w hl hm (by omega) hz hs hc' (hid rfl) hq hn
    · exact int_end sb b off len cap p _ zs w hl hm (by omega) hs hc' (hid rfl) (by omega)

set_option maxHeartbeats 800000 in
theorem zint_any (len cap p : Nat) (a : Option Addr) (zs : List Int) (w : World) (h : Row w a len zs) (hm : len ≤ 8388608) :
    Calls Try.prog 10 #[.slice a len cap, .int .i64 p] w fun e w' =>
      e = .returned (.tuple #[.int .i64 (valAt zs (skip zs p)), .bool (okAt zs (skip zs p)), .int .i64 (posAt zs (skip zs p))]) ∧ Below w.heap.size w w' := by
  have hs : Sc (w.alloc (.cells #[.slice a len cap, .int .i64 p] 41)) w.heap.size a len cap p := by
    refine ⟨?_, ?_, ?_⟩
    · rw [World.cell?_alloc_at _ _ _ _ rfl]; rfl
    · rw [World.cell?_alloc_at _ _ _ _ rfl]; rfl
    · exact World.frozen?_alloc_at _ _ _ _ rfl
  go_enter Try.func10, Try.ntmps10
  go_wp2_with fail
  refine (int_any w.heap.size len cap p a zs w _ h rfl ((Below.refl _ _).alloc (Nat.le_refl _) _) hm hs).mono ?_
  rintro e w1 ⟨rfl, hs1, hb1⟩
  have hpo := hs1.pos
  have hbel : Below w.heap.size w w1 := ((Below.refl _ _).alloc (Nat.le_refl _) _).trans hb1
  clear hs hs1 hb1
  go_wp2
  go_quiet (fail)
  go_wp2
  go_ret3
  exact ⟨rfl, below_drewN' hbel _⟩
end Go.Proofs.Qxb6601954a
