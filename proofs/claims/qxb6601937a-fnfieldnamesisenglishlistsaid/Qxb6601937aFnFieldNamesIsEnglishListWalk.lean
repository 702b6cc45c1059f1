import Derived.Test.Qxb6601937aLaws
import Derived.Lib.AppendStr
import Derived.Laws.IdiomStrings
namespace Go.Proofs.Qxb6601937a.fnFieldNamesIsEnglishList
open Go.ChangeShapes Go.WideShapes Go.ChangeAt Go.RowKit

theorem info5 : (Try.prog.info? 5).map (fun i => (i.zero, i.size, i.bytes)) = some (some (.int .u8 0), 1, 1) := by kernel_rfl
/-- bytes as cells -/
def bc (l : List UInt8) : List Value := l.map fun b => Value.int .u8 b.toNat
theorem bc_append (a b : List UInt8) : bc (a ++ b) = bc a ++ bc b := by simp [bc]
theorem bc_str (s : ByteArray) : Lib.strCells s = bc s.data.toList := rfl

theorem conv_own {w : World} {B : Nat} {v : Value} {l : List UInt8} (h : w.ownsRow B 5 1 v l.length (bc l)) : (convert 33 9 v).run Try.prog w = .ok (.string ⟨l.toArray⟩) w := by
  rcases h.2 with ⟨rfl, h0⟩ | ⟨g, cap, cur, rfl, hB, hg, hn, hm, hs, htk⟩
  · have e := List.eq_nil_of_length_eq_zero h0
    subst e
    rw [run_convert_bytes_string w 33 9 5 none 0 0 Try.underlying33 Try.underlying5 Try.underlying9]
    simp [Conv.bytesToString]
    rfl
  · refine run_convert_bytes_back w 33 9 5 ⟨g, 0, none⟩ cap l Try.underlying33 Try.underlying5 Try.underlying9 (fun j hj => ?_)
    rw [add_plain, Nat.zero_add, h.cellAt j (by omega)]
    simp [bc, hj]

theorem sz5 : ByteArray.size ⟨#[32, 97, 110, 100, 32]⟩ = 5 := rfl
theorem sz2 : ByteArray.size ⟨#[44, 32]⟩ = 2 := rfl
/-- what the relation says behind two appends -/
theorem two {w3 wr w1 w2 : World} {v v1 v2 : Value} {l m s : List UInt8} {n1 n2 : Nat} (hbr : Below w3.heap.size w3 wr) (hl0 : ∀ q, v.ownBlock = some q → w3.heap.size ≤ q ∧ q < wr.heap.size)
    (h1 : w1.ownsRow w3.heap.size 5 1 v1 n1 (bc l ++ bc m)) (g1 : wr.grownBy w1 v.ownBlock) (h2 : w2.ownsRow w3.heap.size 5 1 v2 n2 ((bc l ++ bc m) ++ bc s)) (g2 : w1.grownBy w2 v1.ownBlock) (hn : n2 = (l ++ m ++ s).length) :
    w2.ownsRow w3.heap.size 5 1 v2 (l ++ m ++ s).length (bc (l ++ m ++ s)) ∧ Below w3.heap.size w3 w2 := by
  have hb1 := hbr.grown g1 hbr.size (fun q hq => (hl0 q hq).1)
  refine ⟨?_, hb1.grown g2 hb1.size (fun q hq => (h1.lt q hq).1)⟩
  rw [bc_append, bc_append, ← hn]
  exact h2

set_option maxHeartbeats 1600000 in
theorem walk (a0 : Option Addr) (len0 cap0 : Nat) (ss : List ByteArray) (w : World) (h0 : IsRow w a0 len0 cap0 ss) (hr : len0 ≤ 140737488351232) :
    Calls Try.prog 4 #[.slice a0 len0 cap0] w fun e w' => e = .returned (.bool true) ∧ Below w.heap.size w w' := by
  have HL : Hid (ss.length = len0) := h0.1
  obtain ⟨i0, hi, hz0, hz1, hz2⟩ := info_parts info5
  go_enter Try.func4, Try.ntmps4
  go_wp2_with fail
  refine (zz13_any a0 len0 cap0 ss _ h0 hr).mono ?_
  rintro e w' ⟨⟨r, rfl⟩, hw⟩
  obtain rfl := hw.symm
  cases r
  · go_wp2
    go_ret
    exact ⟨rfl, Below.refl _ _⟩
  by_cases c1 : 16384 < len0
  · go_wp2
    go_ret
    exact ⟨rfl, Below.refl _ _⟩
  go_wp2_with fail
  refine (names_any a0 len0 cap0 ss _ h0 hr).mono ?_
  rintro e w' ⟨n, rfl, hn0, hn1, hn, hw⟩
  obtain rfl := hw.symm
  by_cases c3 : 1048576 < n
  · clear hn
    go_wp2
    go_ret
    exact ⟨rfl, Below.refl _ _⟩
  have ht' : tot ss ≤ 1048576 := by have := hn (by omega); rw [total_tot] at this; omega
  have hlen : ss.length ≤ 16384 := by rw [HL.out]; omega
  clear hn
  go_wp2_with fail
  refine (clone_any a0 len0 cap0 ss _ h0 (by omega)).mono ?_
  rintro e w1 ⟨hcl, hb1⟩
  rcases hcl with ⟨he, a1, c1, rfl⟩ | ⟨hpos, rfl, hs1, hc1⟩
  · go_wp2_with fail
    refine (part_zero a1 c1 _).mono ?_
    rintro e w2 ⟨p, rfl, hp, hb2⟩
    go_wp2_with fail
    refine (zfnames_any p w1.heap.size w1.heap.size [] _ (by simp) (by simp [tot]) hp).mono ?_
    rintro e w3 ⟨rfl, hb3⟩
    have hbel : Below w.heap.size w w3 := hb1.trans ((hb2.trans (hb3.mono hb2.size)).mono hb1.size)
    have hcv : (convert 33 9 (.slice none 0 0)).run Try.prog w3 = .ok (.string ⟨#[]⟩) w3 := conv_own (B := 0) (l := []) (World.ownsRow_nil _ _ _ _)
    clear hb1 hb2 hb3 hp
    go_wp2
    refine wp_loop_rounds 1 ?_
    rw [rounds_succ]
    go_wp2
    go_ret
    exact ⟨rfl, hbel⟩
  · go_wp2_with fail
    refine (part_some w.heap.size 0 ss.length ss.length ss _ rfl hlen hs1 (fun j hj => by rw [Nat.zero_add]; exact hc1 j hj)).mono ?_
    rintro e w2 ⟨p, rfl, hp, hb2⟩
    go_wp2_with fail
    refine (zfnames_any p w1.heap.size w1.heap.size ss _ hlen ht' hp).mono ?_
    rintro e w3 ⟨rfl, hb3⟩
    have hbel : Below w.heap.size w w3 := hb1.trans ((hb2.trans (hb3.mono hb2.size)).mono hb1.size)
    have hlt3 : w.heap.size < w3.heap.size := Nat.lt_of_lt_of_le hs1 (Nat.le_trans hb2.size hb3.size)
    have hc3 : ∀ j, j < ss.length → w3.cell? ⟨w.heap.size, j, none⟩ = some (.string (ss.getD j ByteArray.empty)) := fun j hj => (hb3.cell (Nat.lt_of_lt_of_le hs1 hb2.size)).trans ((hb2.cell hs1).trans (hc1 j hj))
    obtain ⟨got, hgot⟩ : ∃ got : ByteArray, got = ⟨(english ss).toArray⟩ := ⟨_, rfl⟩
    rw [← hgot]
    have HG := hid' hgot
    clear hgot hb1 hb2 hb3 hc1 hp
    go_wp2
    go_loopw [5, 6] (fun v i wr => ∃ k : Nat, k ≤ ss.length ∧ i = .int .i64 k ∧ wr.ownsRow w3.heap.size 5 1 v (model ss k).length (bc (model ss k)) ∧ Below w3.heap.size w3 wr) (fun _ i _ => ss.length - (intOf i).toNat)
    case atStart => exact ⟨0, Nat.zero_le _, rfl, World.ownsRow_nil _ _ _ _, Below.refl _ _⟩
    case round =>
      obtain ⟨k, hk, rfl, hown, hbr⟩ := hrel
      by_cases hlt : k < ss.length
      · have hcx : wr.cell? ⟨w.heap.size, k, none⟩ = some (.string (ss.getD k ByteArray.empty)) := (hbr.cell hlt3).trans (hc3 k hlt)
        have h3 : (ss.getD k ByteArray.empty).size ≤ 1048576 := Nat.le_trans (tot_get ss k hlt) ht'
        have h4 : (model ss k).length ≤ 1130496 := by have h5 := model_le ss k hk; have h6 := tot_take ss k; omega
        clear hc3
        have hbw := hbr.size
        have hlt1 := hown.lt
        generalize hs : ss.getD k ByteArray.empty = s at *
        have HM : Hid (model ss (k + 1) = model ss k ++ (if 0 < k then (if k = ss.length - 1 then and5 else comma) else []) ++ s.data.toList) := by
          show model ss (k + 1) = _
          rw [model, hs]
        clear hs
        by_cases hk0 : k = 0
        · subst hk0
          go_wp2_with (at_builtin; refine Lib.wpList_append_own_string _ rfl (.tmp 38) (.tmp 42) 33 9 rfl w3.heap.size 5 i0 Try.underlying33 Try.underlying9 hi hz0 hz1 hz2 _ _ _ rfl hown s rfl (by unfold maxLen; omega) (by omega) hbw ?_; intro v1 wn hown1 hgrow1 _)
          go_roundw
          case rel =>
            refine ⟨0 + 1, by omega, by go_num, ?_, hbr.grown hgrow1 hbw (fun q hq => (hlt1 q hq).1)⟩
            rw [HM.out, if_neg (by omega)]
            simpa [bc_append, bc_str] using hown1
          case measure => simp [intOf]; omega
        · by_cases hkl : k = ss.length - 1
          · have hke : ((k : Int) == (ss.length : Int) - 1) = true := by simp; omega
            have HK := hid' hkl
            clear hkl
            go_wp2_with (first | (at_builtin; refine Lib.wpList_append_own_string _ rfl (.tmp 34) (.const (.string ⟨#[32, 97, 110, 100, 32]⟩)) 33 9 rfl w3.heap.size 5 i0 Try.underlying33 Try.underlying9 hi hz0 hz1 hz2 _ _ _ rfl hown ⟨#[32, 97, 110, 100, 32]⟩ rfl (by unfold maxLen; rw [sz5]; omega) (by rw [sz5]; omega) hbw ?_; intro v1 wn hown1 hgrow1 _; have hbw1 : w3.heap.size ≤ wn.heap.size := Nat.le_trans hbw hgrow1.size; have hcx1 : wn.cell? ⟨w.heap.size, k, none⟩ = some (.string s) := hgrow1.cell hcx (fun e => by have := (hlt1 w.heap.size e.symm).1; omega)) | (at_builtin; refine Lib.wpList_append_own_string _ rfl (.tmp 38) (.tmp 42) 33 9 rfl w3.heap.size 5 i0 Try.underlying33 Try.underlying9 hi hz0 hz1 hz2 _ _ _ rfl hown1 s rfl (by unfold maxLen; rw [sz5]; omega) (by rw [sz5]; omega) hbw1 ?_; intro v2 wm hown2 hgrow2 _))
            go_roundw
            case rel =>
              have R := two (m := and5) (s := s.data.toList) hbr hlt1 hown1 hgrow1 hown2 hgrow2 (by rw [List.length_append, List.length_append]; rfl)
              refine ⟨k + 1, by omega, by go_num, ?_, R.2⟩
              rw [HM.out, if_pos (by omega), if_pos HK.out]
              exact R.1
            case measure => simp [intOf]; omega
          · have hke : ((k : Int) == (ss.length : Int) - 1) = false := by simp; omega
            go_wp2_with (first | (at_builtin; refine Lib.wpList_append_own_string _ rfl (.tmp 36) (.const (.string ⟨#[44, 32]⟩)) 33 9 rfl w3.heap.size 5 i0 Try.underlying33 Try.underlying9 hi hz0 hz1 hz2 _ _ _ rfl hown ⟨#[44, 32]⟩ rfl (by unfold maxLen; rw [sz2]; omega) (by rw [sz2]; omega) hbw ?_; intro v1 wn hown1 hgrow1 _; have hbw1 : w3.heap.size ≤ wn.heap.size := Nat.le_trans hbw hgrow1.size; have hcx1 : wn.cell? ⟨w.heap.size, k, none⟩ = some (.string s) := hgrow1.cell hcx (fun e => by have := (hlt1 w.heap.size e.symm).1; omega)) | (at_builtin; refine Lib.wpList_append_own_string _ rfl (.tmp 38) (.tmp 42) 33 9 rfl w3.heap.size 5 i0 Try.underlying33 Try.underlying9 hi hz0 hz1 hz2 _ _ _ rfl hown1 s rfl (by unfold maxLen; rw [sz2]; omega) (by rw [sz2]; omega) hbw1 ?_; intro v2 wm hown2 hgrow2 _))
            go_roundw
            case rel =>
              have R := two (m := comma) (s := s.data.toList) hbr hlt1 hown1 hgrow1 hown2 hgrow2 (by rw [List.length_append, List.length_append]; rfl)
              refine ⟨k + 1, by omega, by go_num, ?_, R.2⟩
              rw [HM.out, if_pos (by omega), if_neg hkl]
              exact R.1
            case measure => simp [intOf]; omega
      · have hkl : k = ss.length := by omega
        subst hkl
        have hcv := conv_own hown
        rw [model_english, ← HG.out] at hcv
        clear hc3
        go_wp2
        go_ret
        exact ⟨rfl, hbel.trans (hbr.mono hbel.size)⟩
end Go.Proofs.Qxb6601937a.fnFieldNamesIsEnglishList
