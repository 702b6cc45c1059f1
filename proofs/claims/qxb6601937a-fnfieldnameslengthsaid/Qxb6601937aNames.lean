import Derived.Test.Qxb6601937aField
import Derived.Test.Qxb6601937aShelf
import Derived.Test.Qxb6601937aPlain
import Derived.Deep.RegionWith
namespace Go.Proofs.Qxb6601937a
open Go.ChangeShapes Go.WideShapes Go.ChangeAt Go.RowKit

theorem hid' {p : Prop} (h : p) : Hid p := h
theorem Part.cell2 {w : World} {B p f : Nat} {ss : List ByteArray} (h : Part w B p f ss) (j : Nat) (hj : j < ss.length) : w.cell? ⟨f, j * 2 + 1, none⟩ = some (.pointer none) := by
  rw [h.row.cellAt (j * 2 + 1) (by omega), mk_get _ _ _ (by omega), if_pos (by omega)]
theorem Part.lt {w : World} {B p f : Nat} {ss : List ByteArray} (h : Part w B p f ss) : f < w.heap.size := (h.row.lt f rfl).2

/-- strings.Join, the slice's length under a name of its own -/
theorem join_any (bk o n c : Nat) (xs : List ByteArray) (sep : ByteArray) (w : World) (hn : xs.length = n) (hcells : ∀ (j : Nat) x, xs[j]? = some x → w.cell? ⟨bk, o + j, none⟩ = some (.string x)) (hbk : bk < w.heap.size) (hN : n ≤ 140737488355328) (hcap : n ≤ c)
    (hlen : (Lib.join (xs.map (·.data.toList)) sep.data.toList).length ≤ 140737488355328) :
    Calls Try.prog 21 #[.slice (some ⟨bk, o, none⟩) n c, .string sep] w fun e w' => e = .returned (.string ⟨(Lib.join (xs.map (·.data.toList)) sep.data.toList).toArray⟩) ∧ Below w.heap.size w w' := by
  subst hn
  exact Try.strings_Join bk o c xs sep w hcells hbk hN hcap hlen

theorem str3 (J : List UInt8) (z : ByteArray) : ((⟨J.toArray⟩ : ByteArray) ++ ⟨#[32, 97, 110, 100, 32]⟩) ++ z = ⟨(J ++ and5 ++ z.data.toList).toArray⟩ := by
  apply ByteArray.ext
  simp [and5]
theorem below_last {B : Nat} {wr w2 : World} (h : Below wr.drew.heap.size wr.drew w2) (hB : B ≤ wr.heap.size) : Below B wr w2 := ((Below.refl _ wr).drew).trans (h.mono hB)
theorem cells_of {w : World} {b : Nat} {ss : List ByteArray} (h : ∀ j, j < ss.length → w.cell? ⟨b, j, none⟩ = some (.string (ss.getD j ByteArray.empty))) (j : Nat) (x : ByteArray) (hx : ss[j]? = some x) :
    w.cell? ⟨b, 0 + j, none⟩ = some (.string x) := by
  obtain ⟨hj, e⟩ := List.getElem?_eq_some_iff.1 hx
  rw [Nat.zero_add, h j hj, List.getD, hx]
  rfl

set_option maxHeartbeats 800000 in
theorem fnames_any (p f B : Nat) (ss : List ByteArray) (w : World) (hr : ss.length ≤ 16384) (ht : tot ss ≤ 1048576) (hp : Part w B p f ss) :
    Calls Try.prog 19 #[.pointer (some ⟨p, 0, none⟩)] w fun e w' => e = .returned (.string ⟨(english ss).toArray⟩) ∧ Below w.heap.size w w' := by
  have hbox := hp.box
  have hps := hp.ps
  have hfs := hp.lt
  have HP := hid' hp
  clear hp
  obtain ⟨i0, hi, hz0, hz1, hz2⟩ := info_parts Try.info9
  go_enter Try.func19, Try.ntmps19
  go_wp2_with (at_make; refine wpList_make_full _ rfl _ _ 22 rfl w.heap.size 9 i0 (.string ByteArray.empty) 1 Try.underlying22 hi hz0 hz1 _ _ _ _ ss.length rfl rfl rfl rfl (by rw [hz2]; omega) (by unfold maxLen; omega) (Nat.le_refl _) ?_; intro w1 hown hgrow; rw [show (madeCells (Value.string ByteArray.empty).cells (ss.length * 1)).toList = cl ss 0 from by rw [cl_zero, Nat.mul_one]; exact toList_madeCells_one _ _] at hown; have hb1 : Below w.heap.size w w1 := (Below.refl _ _).grown hgrow (Nat.le_refl _) (by simp); have hbox1 : w1.cell? ⟨p, 2, none⟩ = some (.slice (some ⟨f, 0, none⟩) ss.length ss.length) := (hb1.cell (by exact hps)).trans hbox)
  have HO := hid' hown
  have HB := hid' hb1
  clear hown hgrow hb1
  go_loopw [18] (fun i wr => ∃ k : Nat, k ≤ ss.length ∧ i = .int .i64 k ∧ wr.ownsRow w.heap.size 9 1 (.slice (some ⟨w.heap.size, 0, none⟩) ss.length ss.length) ss.length (cl ss k) ∧ Below w.heap.size w wr) (fun i _ => ss.length - (intOf i).toNat)
  case atStart => exact ⟨0, Nat.zero_le _, rfl, HO.out, HB.out⟩
  case round =>
    obtain ⟨k, hk, rfl, hown', hbel⟩ := hrel
    clear HO HB
    by_cases hlt : k < ss.length
    · have hcx : wr.cell? ⟨f, k * 2, none⟩ = some (.string (ss.getD k ByteArray.empty)) := (hbel.cell (by exact hfs)).trans (HP.out.cell k hlt)
      have hcy : wr.cell? ⟨f, k * 2 + 1, none⟩ = some (.pointer none) := (hbel.cell (by exact hfs)).trans (HP.out.cell2 k hlt)
      have hfz : wr.frozen? ⟨w.heap.size, k, none⟩ = false := hown'.frozenAt k
      obtain ⟨v, hv⟩ : ∃ v, wr.cell? ⟨w.heap.size, k, none⟩ = some v := by rw [hown'.cellAt k (by omega)]; exact cl_get ss k k (by omega)
      have HO := hid' hown'
      have HB := hid' hbel
      have hsz : w.heap.size < wr.heap.size := (hown'.lt w.heap.size rfl).2
      clear hown' hbel
      generalize hs : ss.getD k ByteArray.empty = s at *
      have HS := hid' hs
      clear hs
      go_wp2
      go_roundw
      case rel =>
        have h1 := (HO.out.stored k (.string s)).1
        rw [← HS.out, cl_set ss k hlt, HS.out] at h1
        exact ⟨k + 1, by omega, by go_num, h1.alloc _, (HB.out.setCell (Nat.le_refl _) _).alloc (by simp; omega) _⟩
      case measure => simp [intOf]; omega
    · have hkl : k = ss.length := by omega
      subst hkl
      rw [cl_full] at hown'
      have hsz : w.heap.size < wr.heap.size := (hown'.lt w.heap.size rfl).2
      have hcells : ∀ j, j < ss.length → wr.cell? ⟨w.heap.size, j, none⟩ = some (.string (ss.getD j ByteArray.empty)) := fun j hj => by
        rw [hown'.cellAt j (by omega), List.getElem?_map, List.getElem?_eq_getElem hj]
        simp [List.getD, hj]
      have HC := hid' hcells
      clear hown' hcells
      by_cases h1 : ss.length ≤ 1
      · go_wp2_with fail
        refine (join_any w.heap.size 0 ss.length ss.length ss ⟨#[]⟩ wr rfl (fun j x hx => cells_of HC.out j x hx) hsz (by omega) (Nat.le_refl _) (by have := join_le ss []; simp at this ⊢; omega)).mono ?_
        rintro e w2 ⟨rfl, hb2⟩
        go_wp2
        go_ret
        exact ⟨by simp [english, h1], hbel.trans (hb2.mono hbel.size)⟩
      · have hlast : wr.cell? ⟨w.heap.size, ss.length - 1, none⟩ = some (.string (ss.getD (ss.length - 1) ByteArray.empty)) := HC.out _ (by omega)
        have HJ : Hid (∀ wx : World, (∀ a, wx.cell? a = wr.cell? a) → wx.heap.size = wr.heap.size → Calls Try.prog 21 #[.slice (some ⟨w.heap.size, 0, none⟩) (ss.length - 1) ss.length, .string ⟨#[44, 32]⟩] wx fun e w' => e = .returned (.string ⟨(Lib.join ((ss.take (ss.length - 1)).map (·.data.toList)) comma).toArray⟩) ∧ Below wx.heap.size wx w') := by
          intro wx hx hs
          refine join_any w.heap.size 0 (ss.length - 1) ss.length (ss.take (ss.length - 1)) ⟨#[44, 32]⟩ wx (by simp) (fun j x hj => ?_) (by omega) (by omega) (by omega) ?_
          · rw [hx]
            rw [List.getElem?_take] at hj
            split at hj
            · exact cells_of HC.out j x hj
            · cases hj
          · have h1 := join_le (ss.take (ss.length - 1)) [44, 32]
            have h2 := tot_take ss (ss.length - 1)
            simp at h1 ⊢
            omega
        have HE : Hid (english ss = Lib.join ((ss.take (ss.length - 1)).map (·.data.toList)) comma ++ and5 ++ (ss.getD (ss.length - 1) ByteArray.empty).data.toList) := by simp [Hid, english, h1]
        have HLJ : (Lib.join ((ss.take (ss.length - 1)).map (·.data.toList)) comma).length ≤ 2097152 := by
          have h1 := join_le (ss.take (ss.length - 1)) comma
          have h2 := tot_take ss (ss.length - 1)
          simp [comma] at h1 ⊢
          omega
        have HLZ : (ss.getD (ss.length - 1) ByteArray.empty).size ≤ 1048576 := Nat.le_trans (tot_get ss _ (by omega)) ht
        generalize Lib.join ((ss.take (ss.length - 1)).map (·.data.toList)) comma = J at *
        generalize ss.getD (ss.length - 1) ByteArray.empty = z at *
        have hadd1 : ∀ wx, (Op.stringOp .add ⟨J.toArray⟩ ⟨#[32, 97, 110, 100, 32]⟩).run Try.prog wx = .ok (.string (⟨J.toArray⟩ ++ ⟨#[32, 97, 110, 100, 32]⟩)) wx := fun wx => run_string_add_sum wx _ _ (by show J.toArray.size + 5 ≤ _; simp; omega)
        have hadd2 : ∀ wx, (Op.stringOp .add (⟨J.toArray⟩ ++ ⟨#[32, 97, 110, 100, 32]⟩) z).run Try.prog wx = .ok (.string ((⟨J.toArray⟩ ++ ⟨#[32, 97, 110, 100, 32]⟩) ++ z)) wx := fun wx => run_string_add_sum wx _ _ (by rw [ByteArray.size_append]; show J.toArray.size + 5 + z.size ≤ _; simp; omega)
        go_wp2
        go_region_with (go_at_call 21; refine (HJ.out _ (by intro _; rfl) (by rfl)).mono ?_; rintro e w2 ⟨rfl, hb2⟩; have hlast2 := (hb2.cell (p := ⟨w.heap.size, ss.length - 1, none⟩) hsz).trans hlast)
        all_goals
          go_wp2
          go_ret
          exact ⟨by rw [HE.out]; exact congrArg (fun s => Ending.returned (.string s)) (str3 J z), hbel.trans (below_last hb2 hbel.size)⟩
end Go.Proofs.Qxb6601937a
