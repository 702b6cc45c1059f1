import Derived.Test.Qxb6601954aRows
import Derived.Test.Qxb6601954aPlain
import Derived.WalkKit
import Derived.ProofKit
import Derived.OpenShut
import Derived.ShutString
import Derived.Below
import Derived.WalkLawsBesides
import Derived.WalkSpells
import Derived.Deep.QuietTactic
import Derived.BigQuiet
import Derived.Deep.LoopGhost
import Derived.Lib.SliceRun
namespace Go.Proofs.Qxb6601954a
open Go.ChangeShapes Go.WideShapes Go.ChangeAt Go.RowKit

theorem hid {p : Prop} (h : p) : Hid p := h

/-- a Scanner in block sb: its data, its place -/
structure Sc (w : World) (sb : Nat) (a : Option Addr) (len cap : Nat) (pos : Int) : Prop where
  data : w.cell? ⟨sb, 0, none⟩ = some (.slice a len cap)
  pos : w.cell? ⟨sb, 1, none⟩ = some (.int .i64 pos)
  free : w.frozen? ⟨sb, 1, none⟩ = false

theorem Sc.drewN {w : World} {sb : Nat} {a : Option Addr} {len cap : Nat} {pos : Int} (h : Sc w sb a len cap pos) (n : Nat) : Sc (w.drewN n) sb a len cap pos := by
  refine ⟨?_, ?_, ?_⟩ <;> simp [h.data, h.pos, h.free]

theorem step_sc {w : World} {sb : Nat} {a : Option Addr} {len cap : Nat} {pos : Int} (h : Sc w sb a len cap pos) (q : Int) (n : Nat) : Sc ((w.setCell ⟨sb, 1, none⟩ (.int .i64 q)).drewN n) sb a len cap q := by
  refine ⟨?_, ?_, ?_⟩
  · rw [show ((w.setCell ⟨sb, 1, none⟩ (.int .i64 q)).drewN n).cell? ⟨sb, 0, none⟩ = (w.setCell ⟨sb, 1, none⟩ (.int .i64 q)).cell? ⟨sb, 0, none⟩ from by simp]
    exact (World.cell?_setCell_other (w := w) (a := ⟨sb, 1, none⟩) (b := ⟨sb, 0, none⟩) (v := .int .i64 q) (by simp)).trans h.data
  · rw [show ((w.setCell ⟨sb, 1, none⟩ (.int .i64 q)).drewN n).cell? ⟨sb, 1, none⟩ = (w.setCell ⟨sb, 1, none⟩ (.int .i64 q)).cell? ⟨sb, 1, none⟩ from by simp]
    exact World.cell?_setCell_same (w := w) (a := ⟨sb, 1, none⟩) (v := .int .i64 q) h.pos
  · simp [h.free]
theorem below_drewN' {w wr : World} {sb : Nat} (h : Below sb w wr) (n : Nat) : Below sb w (wr.drewN n) := by
  induction n with
  | zero => exact h
  | succ n ih => exact ih.drew
theorem step_below {w wr : World} {sb : Nat} (h : Below sb w wr) (v : Value) (n : Nat) : Below sb w ((wr.setCell ⟨sb, 1, none⟩ v).drewN n) := by
  induction n with
  | zero => exact h.setCell (Nat.le_refl _) _
  | succ n ih => exact ih.drew

set_option maxHeartbeats 800000 in
theorem skip_some (sb b off len cap p : Nat) (zs : List Int) (w : World) (hl : zs.length = len) (hm : len ≤ 9223372036854775807) (hb : b < sb)
    (hs : Sc w sb (some ⟨b, off, none⟩) len cap p) (hc : ∀ j, j < len → w.cell? ⟨b, off + j, none⟩ = some (.int .u8 (zs.getD j 0))) :
    Calls Try.prog 31 #[.pointer (some ⟨sb, 0, none⟩)] w fun e w' => e = .returned (.tuple #[]) ∧ Sc w' sb (some ⟨b, off, none⟩) len cap (skip zs p) ∧ Below sb w w' := by
  go_enter Try.func31, Try.ntmps31
  go_wp2
  go_loopg [] (len - p) (fun g wr => ∃ k : Nat, p ≤ k ∧ (k ≤ len ∨ k = p) ∧ len - k ≤ g ∧ skip zs k = skip zs p ∧ Sc wr sb (some ⟨b, off, none⟩) len cap k ∧ Below sb w wr)
  case atStart => exact ⟨p, Nat.le_refl _, .inr rfl, Nat.le_refl _, rfl, hs, Below.refl _ _⟩
  case round =>
    obtain ⟨k, hpk, hkl, hg, hsk, hsc, hbel⟩ := hrel
    have HSK := hid hsk
    clear hsk hs
    have hd := hsc.data
    have hpo := hsc.pos
    have hfr := hsc.free
    by_cases hlt : k < len
    · have hcx : wr.cell? ⟨b, off + k, none⟩ = some (.int .u8 (zs.getD k 0)) := (hbel.cell (by exact hb)).trans (hc k hlt)
      have hli : (k : Int) < (len : Int) := by omega
      clear hc
      generalize hz : zs.getD k 0 = c at *
      have HZ := hid hz
      clear hz
      go_wp2
      go_quiet (fail)
      go_wp2
      go_quiet (fail)
      go_wp2
      all_goals first
        | (go_roundg (len - (k + 1))
           case measure => omega
           case rel =>
             refine ⟨k + 1, by omega, .inl (by omega), Nat.le_refl _, ?_, ?_, ?_⟩
             · rw [← HSK.out, skip_yes zs k (by omega) (by rw [HZ.out]; simp [isSp, *])]
             · exact step_sc hsc _ _
             · exact step_below hbel _ _)
        | (refine bodyPost_ret (results_none Try.results31 _ _ _) rfl ⟨rfl, ?_, below_drewN' hbel _⟩
           rw [← HSK.out, skip_no zs k (by omega) (by rw [HZ.out]; simp [isSp, *])]
           exact hsc.drewN _)
    · have hli : decide ((k : Int) < (len : Int)) = false := by simp; omega
      clear hc
      go_wp2
      go_quiet (fail)
      go_wp2
      refine bodyPost_end (results_none Try.results31 _ _ _) rfl ⟨rfl, ?_, below_drewN' hbel _⟩
      rw [← HSK.out, skip_end zs k (by omega)]
      exact hsc.drewN _

/-- no data -/
theorem skip_zero (sb cap p : Nat) (a : Option Addr) (w : World) (hs : Sc w sb a 0 cap p) :
    Calls Try.prog 31 #[.pointer (some ⟨sb, 0, none⟩)] w fun e w' => e = .returned (.tuple #[]) ∧ Sc w' sb a 0 cap p ∧ Below sb w w' := by
  have hd := hs.data
  have hpo := hs.pos
  go_enter Try.func31, Try.ntmps31
  go_wp2
  refine wp_loop_rounds 1 ?_
  rw [rounds_succ]
  have hli : decide ((p : Int) < (0 : Int)) = false := by simp
  go_wp2
  go_quiet (fail)
  go_wp2
  refine bodyPost_end (results_none Try.results31 _ _ _) rfl ⟨rfl, hs.drewN _, below_drewN' (Below.refl _ _) _⟩
end Go.Proofs.Qxb6601954a
