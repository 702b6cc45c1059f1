import Derived.Test.Qxb6601954aQuoted
import Derived.Test.Qxb6601954aSrc
namespace Go.Proofs.Qxb6601954a
open Go.ChangeShapes Go.WideShapes Go.ChangeAt Go.RowKit

set_option maxHeartbeats 800000 in
/-- no data -/
theorem quoted_zero (es : Bool) (sb cap : Nat) (a : Option Addr) (w : World) (hs : Sc w sb a 0 cap ((0 : Nat) : Int)) :
    Calls Try.prog 27 #[.pointer (some ⟨sb, 0, none⟩), .bool es] w fun e w' => Below sb w w' ∧ e = .returned (.tuple #[.slice none 0 0, .bool false]) ∧ Sc w' sb a 0 cap ((0 : Nat) : Int) := by
  go_enter Try.func27, Try.ntmps27
  go_wp2_with fail
  refine (skip_zero sb cap 0 a w hs).mono ?_
  rintro e w1 ⟨rfl, hs1, hb1⟩
  have hd := hs1.data
  have hpo := hs1.pos
  have HS := hid hs1
  clear hs1 hs
  go_wp2
  go_quiet (fail)
  go_wp2
  go_ret2
  exact ⟨below_drewN' hb1 _, rfl, HS.out.drewN _⟩

/-- what ZZQuoted answers -/
def ZQEnd (es : Bool) (zs : List Int) (q : Nat) (a : Option Addr) (cap : Nat) (w : World) (e : Ending) (w' : World) : Prop :=
  Below w.heap.size w w' ∧
  ((qres es zs q = none ∧ e = .returned (.tuple #[.slice none 0 0, .bool false, .int .i64 q])) ∨
   ∃ c b off, qres es zs q = some c ∧ a = some ⟨b, off, none⟩ ∧ e = .returned (.tuple #[.slice (some ⟨b, off + (q + 1), none⟩) (c - (q + 1)) (cap - (q + 1)), .bool true, .int .i64 ((c + 1 : Nat) : Int)]))

theorem start_sc (w : World) (a : Option Addr) (len cap p : Nat) : Sc (w.alloc (.cells #[.slice a len cap, .int .i64 p] 41)) w.heap.size a len cap p := by
  refine ⟨?_, ?_, ?_⟩
  · rw [World.cell?_alloc_at _ _ _ _ rfl]; rfl
  · rw [World.cell?_alloc_at _ _ _ _ rfl]; rfl
  · exact World.frozen?_alloc_at _ _ _ _ rfl

set_option maxHeartbeats 800000 in
theorem zq_zero (es : Bool) (cap : Nat) (a : Option Addr) (w : World) :
    Calls Try.prog 16 #[.slice a 0 cap, .int .i64 0, .bool es] w fun e w' => ZQEnd es [] 0 a cap w e w' := by
  have hs := start_sc w a 0 cap 0
  go_enter Try.func16, Try.ntmps16
  go_wp2_with fail
  refine (quoted_zero es w.heap.size cap a _ hs).mono ?_
  rintro e w1 ⟨hb1, rfl, hs1⟩
  have hpo := hs1.pos
  have hbel : Below w.heap.size w w1 := ((Below.refl _ _).alloc (Nat.le_refl _) _).trans hb1
  clear hs hs1 hb1
  go_wp2
  go_quiet (fail)
  go_wp2
  go_ret3
  exact ⟨below_drewN' hbel _, .inl ⟨rfl, rfl⟩⟩

set_option maxHeartbeats 800000 in
theorem zq_some (es : Bool) (b off len cap p : Nat) (zs : List Int) (w : World) (hl : zs.length = len) (hm : len ≤ 8388608) (hcap : len ≤ cap) (hp : p ≤ len) (hb : b < w.heap.size)
    (hz : ∀ j, 0 ≤ zs.getD j 0 ∧ zs.getD j 0 ≤ 255) (hc : ∀ j, j < len → w.cell? ⟨b, off + j, none⟩ = some (.int .u8 (zs.getD j 0))) :
    Calls Try.prog 16 #[.slice (some ⟨b, off, none⟩) len cap, .int .i64 p, .bool es] w fun e w' => ZQEnd es zs (skip zs p) (some ⟨b, off, none⟩) cap w e w' := by
  have hs := start_sc w (some ⟨b, off, none⟩) len cap p
  have hb0 : Below w.heap.size w (w.alloc (.cells #[.slice (some ⟨b, off, none⟩) len cap, .int .i64 p] 41)) := (Below.refl _ _).alloc (Nat.le_refl _) _
  have hc' : ∀ j, j < len → (w.alloc (.cells #[.slice (some ⟨b, off, none⟩) len cap, .int .i64 p] 41)).cell? ⟨b, off + j, none⟩ = some (.int .u8 (zs.getD j 0)) := fun j hj => (hb0.cell hb).trans (hc j hj)
  have hql : skip zs p ≤ len := by rw [← hl]; exact skip_le zs p (by omega)
  have HCAL : Hid (Calls Try.prog 27 #[.pointer (some ⟨w.heap.size, 0, none⟩), .bool es] (w.alloc (.cells #[.slice (some ⟨b, off, none⟩) len cap, .int .i64 p] 41)) fun e w' => QEnd es zs (skip zs p) w.heap.size b off len cap (w.alloc (.cells #[.slice (some ⟨b, off, none⟩) len cap, .int .i64 p] 41)) e w') := by
    by_cases ho : skip zs p < len ∧ zs.getD (skip zs p) 0 = 34
    · exact quoted_open es w.heap.size b off len cap p _ zs _ hl hm hcap hb hz hs hc' (hid rfl) ho.1 ho.2
    · exact quoted_none es w.heap.size b off len cap p _ zs _ hl hm hb hs hc' (hid rfl) hql (fun h1 h2 => ho ⟨h1, h2⟩)
  clear hc hc' hs hz hl
  generalize skip zs p = q at *
  go_enter Try.func16, Try.ntmps16
  go_wp2_with fail
  refine HCAL.out.mono ?_
  rintro e w1 ⟨hb1, hcase⟩
  have hbel : Below w.heap.size w w1 := hb0.trans hb1
  clear HCAL hb0 hb1
  rcases hcase with ⟨hr, rfl, hs1⟩ | ⟨c, hr, rfl, hs1⟩
  · have hpo := hs1.pos
    have HR := hid hr
    clear hs1 hr
    go_wp2
    go_quiet (fail)
    go_wp2
    go_ret3
    exact ⟨below_drewN' hbel _, .inl ⟨HR.out, rfl⟩⟩
  · have hpo := hs1.pos
    have HR := hid hr
    clear hs1 hr
    go_wp2
    go_quiet (fail)
    go_wp2
    go_ret3
    exact ⟨below_drewN' hbel _, .inr ⟨c, b, off, HR.out, rfl, rfl⟩⟩

/-- sameBytes at two slices that hold the same -/
theorem same_zero (a1 a2 : Option Addr) (c1 c2 : Nat) (w : World) : Calls Try.prog 18 #[.slice a1 0 c1, .slice a2 0 c2] w fun e w' => e = .returned (.bool true) ∧ w' = w := by
  go_enter Try.func18, Try.ntmps18
  go_wp2
  refine wp_loop_rounds 1 ?_
  rw [rounds_succ]
  go_wp2
  go_ret
  exact ⟨rfl, rfl⟩

set_option maxHeartbeats 800000 in
theorem same_some (b1 o1 c1 b2 o2 c2 n : Nat) (f : Nat → Int) (w : World) (hm : n ≤ 9223372036854775807) (h1 : ∀ j, j < n → w.cell? ⟨b1, o1 + j, none⟩ = some (.int .u8 (f j))) (h2 : ∀ j, j < n → w.cell? ⟨b2, o2 + j, none⟩ = some (.int .u8 (f j))) :
    Calls Try.prog 18 #[.slice (some ⟨b1, o1, none⟩) n c1, .slice (some ⟨b2, o2, none⟩) n c2] w fun e w' => e = .returned (.bool true) ∧ Below w.heap.size w w' := by
  go_enter Try.func18, Try.ntmps18
  go_wp2
  go_loopw [5] (fun i wr => ∃ k d : Nat, k ≤ n ∧ i = .int .i64 k ∧ wr = w.drewN d) (fun i _ => n - (intOf i).toNat)
  case atStart => exact ⟨0, 0, Nat.zero_le _, rfl, rfl⟩
  case round =>
    obtain ⟨k, d, hk, rfl, rfl⟩ := hrel
    by_cases hlt : k < n
    · have g1 := h1 k hlt
      have g2 := h2 k hlt
      have hli : (k : Int) < (n : Int) := by omega
      clear h1 h2
      generalize f k = c at *
      go_wp2
      go_quiet (fail)
      go_wp2
      go_roundw
      case rel => exact ⟨k + 1, _, by omega, by go_num, rfl⟩
      case measure => simp [intOf]; omega
    · clear h1 h2
      go_wp2
      go_ret
      exact ⟨rfl, below_drewN' (Below.refl _ _) _⟩
end Go.Proofs.Qxb6601954a
