import Derived.Test.Qxb6601954aClone
import Derived.Test.Qxb6601954aPlain3
namespace Go.Proofs.Qxb6601954a
open Go.ChangeShapes Go.WideShapes Go.ChangeAt Go.RowKit

/-- the array 'rev', its first k cells filled -/
structure Rv (w : World) (B U k : Nat) : Prop where
  digits : ∀ j, j < k → w.cell? ⟨B, j, none⟩ = some (.int .u8 (dg U j))
  any : ∀ j, j < 20 → ∃ v, w.cell? ⟨B, j, none⟩ = some v
  free : ∀ j, w.frozen? ⟨B, j, none⟩ = false
theorem Rv.set {w : World} {B U k : Nat} (h : Rv w B U k) (hk : k < 20) : Rv (w.setCell ⟨B, k, none⟩ (.int .u8 (dg U k))) B U (k + 1) := by
  obtain ⟨h1, h2, h3⟩ := h
  obtain ⟨v, hv⟩ := h2 k hk
  refine ⟨fun j hj => ?_, fun j hj => ?_, fun j => by simp [h3]⟩
  · by_cases e : j = k
    · subst e
      exact World.cell?_setCell_same (w := w) (a := ⟨B, j, none⟩) (v := .int .u8 (dg U j)) hv
    · rw [World.cell?_setCell_other (w := w) (a := ⟨B, k, none⟩) (b := ⟨B, j, none⟩) (v := .int .u8 (dg U k)) (by intro h; injection h; omega)]
      exact h1 j (by omega)
  · obtain ⟨v', hv'⟩ := h2 j hj
    exact cell?_setCell_some hv'
theorem rv_start (w : World) (U : Nat) : Rv (w.alloc (.cells #[.int .u8 0, .int .u8 0, .int .u8 0, .int .u8 0, .int .u8 0, .int .u8 0, .int .u8 0, .int .u8 0, .int .u8 0, .int .u8 0, .int .u8 0, .int .u8 0, .int .u8 0, .int .u8 0, .int .u8 0, .int .u8 0, .int .u8 0, .int .u8 0, .int .u8 0, .int .u8 0] 46)) w.heap.size U 0 := by
  refine ⟨fun j hj => by omega, fun j hj => ?_, fun j => World.frozen?_alloc_at _ _ _ _ rfl⟩
  rw [World.cell?_alloc_at _ _ _ _ rfl]
  exact ⟨_, Array.getElem?_eq_getElem (by simpa using hj)⟩
theorem dg_eq (U k : Nat) : dg U k = 48 + ((U / 10 ^ k : Nat) : Int) % 10 := by unfold dg; omega

theorem size_set (w : World) (a : Addr) (v : Value) : (w.setCell a v).heap.size = w.heap.size := by simp
/-- what decimalText leaves -/
def DecEnd (neg : Bool) (U : Nat) (w : World) (e : Ending) (w' : World) : Prop :=
  ∃ N g c, Digits U N ∧ e = .returned (.slice (some ⟨g, 0, none⟩) (txt neg U N).length c) ∧ g < w'.heap.size ∧ (∀ j, j < (txt neg U N).length → w'.cell? ⟨g, j, none⟩ = some (.int .u8 ((txt neg U N).getD j 0))) ∧ Below w.heap.size w w'

theorem dec_end {neg : Bool} {U N : Nat} {w w' : World} {g n c B : Nat} {xs : List Value} (hd : Digits U N) (ho : w'.ownsRow B 5 1 (.slice (some ⟨g, 0, none⟩) n c) n xs) (hn : n = (txt neg U N).length) (hx : xs = (txt neg U N).map (Value.int .u8)) (hb : Below w.heap.size w w') :
    DecEnd neg U w (.returned (.slice (some ⟨g, 0, none⟩) n c)) w' := by
  refine ⟨N, g, c, hd, by rw [hn], (ho.lt g rfl).2, fun j hj => ?_, hb⟩
  rw [ho.cellAt j (by omega), hx, List.getElem?_map, List.getElem?_eq_getElem hj]
  simp [List.getD, hj]

set_option maxHeartbeats 1600000 in
theorem dec_neg (v : Int) (U : Nat) (w : World) (h0 : v < 0) (hv : -9223372036854775808 ≤ v) (hU : (U : Int) = -v) :
    Calls Try.prog 14 #[.int .i64 v] w fun e w' => DecEnd true U w e w' := by
  obtain rfl : v = -(U : Int) := by omega
  have hUb : U ≤ 9223372036854775808 := by omega
  have hUp : 0 < U := by omega
  have hdn : decide (-(U : Int) < 0) = true := by simp; omega
  clear hU h0 hv
  have HR0 := hid (rv_start w U)
  obtain ⟨i0, hi, hz0, hz1, hz2⟩ := info_parts Try.info5
  go_enter Try.func14, Try.ntmps14
  go_wp2
  go_loopw [4, 6] (fun u n wr => ∃ k : Nat, k ≤ 18 ∧ n = .int .i64 k ∧ u = .int .u64 ((U / 10 ^ k : Nat) : Int) ∧ (k = 0 ∨ U / 10 ^ k ≠ 0) ∧ Rv wr w.heap.size U k ∧ Below w.heap.size w wr ∧ w.heap.size < wr.heap.size) (fun _ n _ => 20 - (intOf n).toNat)
  case atStart => exact ⟨0, by omega, rfl, congrArg (Value.int .u64) (by first | (rw [Nat.pow_zero, Nat.div_one]; done) | (rw [Nat.pow_zero, Nat.div_one]; omega)), .inl rfl, HR0.out, (Below.refl _ _).alloc (Nat.le_refl _) _, by simp⟩
  case round =>
    obtain ⟨k, hk, rfl, rfl, hnz, hrv, hbel, hsz⟩ := hrel
    clear HR0
    have hfz := hrv.free k
    obtain ⟨v0, hv0⟩ := hrv.any k (by omega)
    have HRV := hid (hrv.set (by omega))
    have HSZ : Hid (w.heap.size < (wr.setCell ⟨w.heap.size, k, none⟩ (.int .u8 (dg U k))).heap.size) := by show _ < _; simpa using hsz
    have HBL := hid (hbel.setCell (p := ⟨w.heap.size, k, none⟩) (Nat.le_refl _) (.int .u8 (dg U k)))
    have HDS := hid (div_step U k)
    have HPB : Hid (U / 10 ^ (k + 1) ≠ 0 → k + 1 ≤ 18) := fun h => pow_bound U (k + 1) hUb h
    have hub : U / 10 ^ k ≤ 9223372036854775808 := Nat.le_trans (Nat.div_le_self _ _) hUb
    have HNZ := hid hnz
    rw [dg_eq] at HRV HBL HSZ
    clear hrv hbel hnz
    generalize hx : U / 10 ^ k = x at *
    have HX := hid hx
    clear hx
    by_cases hlast : x < 10
    · have HDI : Hid (Digits U (k + 1)) := by
        refine ⟨by omega, by omega, by rw [HDS.out]; omega, ?_⟩
        rcases HNZ.out with h | h
        · exact .inl (by omega)
        · exact .inr (by rw [Nat.add_sub_cancel, HX.out]; exact h)
      have hlx : x / 10 = 0 := by omega
      go_wp2_with (first | (at_make; refine wpList_make_own _ rfl _ _ 22 rfl (w.heap.size + 1) 5 i0 (.int .u8 0) 1 Try.underlying22 hi hz0 hz1 _ _ _ (k + 2) rfl rfl (by omega) (by rw [hz2]; omega) (by unfold maxLen; omega) HSZ.out ?_; intro w2 hown2 hgrow2; rw [size_set] at hown2) | (at_builtin; refine wpList_append_fits _ rfl (.tmp 35) (.tmp 36) 22 rfl (w.heap.size + 1) 5 i0 1 Try.underlying22 hi hz1 wr.heap.size 0 (k + 2) [] rfl (hown2.alloc _) ⟨w2.heap.size, 0, none⟩ 1 1 [.int .u8 45] rfl rfl (cell_one_new _ _ _) (ints_oneCell .u8 [45]) (by omega) ?_; intro w3 hown3 hgrow3))
      have hbA : Below (w.heap.size + 1) _ w3 := (((Below.refl (w.heap.size + 1) _).grown hgrow2 HSZ.out (by simp)).alloc (Nat.le_trans HSZ.out hgrow2.size) _).grown hgrow3 (by simp; exact Nat.le_of_lt (Nat.le_trans HSZ.out hgrow2.size)) (fun q hq => by simp at hq; omega)
      have hdig : ∀ j, j < k + 1 → w3.cell? ⟨w.heap.size, j, none⟩ = some (.int .u8 (dg U j)) := fun j hj => (hbA.cell (p := ⟨w.heap.size, j, none⟩) (Nat.lt_succ_self _)).trans (HRV.out.digits j hj)
      have HBA := hid (HBL.out.trans (hbA.mono (Nat.le_succ _)))
      have hszA : w.heap.size + 1 ≤ w3.heap.size := Nat.le_trans HSZ.out hbA.size
      have HO := hid hown3
      clear hbA HRV HBL HSZ HDS HPB HNZ HX hown3 hgrow2 hgrow3 hown2 hv0 hfz hlx
      generalize wr.heap.size = G at *
      go_loopw [7, 8] (fun o i wx => ∃ j : Nat, j ≤ k + 1 ∧ i = .int .i64 ((k : Int) - j) ∧ o = .slice (some ⟨G, 0, none⟩) (1 + j) (k + 2) ∧ wx.ownsRow (w.heap.size + 1) 5 1 (.slice (some ⟨G, 0, none⟩) (1 + j) (k + 2)) (1 + j) ([.int .u8 45] ++ (td U (k + 1) j).map (Value.int .u8)) ∧ Below (w.heap.size + 1) w3 wx) (fun _ i _ => (intOf i + 1).toNat)
      case atStart => exact ⟨0, by omega, by go_num, rfl, by simpa [td] using HO.out, Below.refl _ _⟩
      case round =>
        obtain ⟨j, hj, rfl, rfl, hown, hbx⟩ := hrel
        have hbx' := hbx.size
        by_cases hlt : j < k + 1
        · have hcx : wr.cell? ⟨w.heap.size, k - j, none⟩ = some (.int .u8 (dg U (k - j))) := (hbx.cell (p := ⟨w.heap.size, k - j, none⟩) (Nat.lt_succ_self _)).trans (hdig _ (by omega))
          have HTD : Hid (td U (k + 1) (j + 1) = td U (k + 1) j ++ [dg U (k - j)]) := rfl
          clear hdig HO
          generalize dg U (k - j) = d at *
          go_wp2_with (at_builtin; refine wpList_append_fits _ rfl (.tmp 44) (.tmp 48) 22 rfl (w.heap.size + 1) 5 i0 1 Try.underlying22 hi hz1 G (1 + j) (k + 2) _ rfl (hown.alloc _) ⟨wr.heap.size, 0, none⟩ 1 1 [.int .u8 d] rfl rfl (cell_one_new _ _ _) (ints_oneCell .u8 [d]) (by omega) ?_; intro w4 hown4 hgrow4)
          have hG := (hown.lt G rfl).1
          go_roundw
          case rel =>
            refine ⟨j + 1, by omega, by go_num, rfl, ?_, (hbx.alloc (by omega) _).grown hgrow4 (by simp; omega) (fun q hq => by simp at hq; omega)⟩
            rw [HTD.out, List.map_append, ← List.append_assoc]
            exact hown4
          case measure => simp [intOf]; omega
        · have hjk : j = k + 1 := by omega
          subst hjk
          clear hdig HO
          go_wp2
          go_ret
          exact dec_end (neg := true) HDI.out hown (by rw [txt, List.length_append, td_len]; rfl) rfl (HBA.out.trans (hbx.mono (Nat.le_succ _)))

    · go_wp2
      go_roundw
      case rel =>
        have h1 : U / 10 ^ (k + 1) ≠ 0 := by rw [HDS.out]; omega
        exact ⟨k + 1, HPB.out h1, by go_num, congrArg (Value.int .u64) (by rw [HDS.out]; omega), .inr h1, HRV.out, HBL.out, HSZ.out⟩
      case measure => simp [intOf]; omega

set_option maxHeartbeats 1600000 in
theorem dec_pos (v : Int) (U : Nat) (w : World) (h0 : 0 ≤ v) (hv : v ≤ 9223372036854775807) (hU : (U : Int) = v) :
    Calls Try.prog 14 #[.int .i64 v] w fun e w' => DecEnd false U w e w' := by
  subst hU
  have hUb : U ≤ 9223372036854775808 := by omega
  have hdn : decide ((U : Int) < 0) = false := by simp
  have HR0 := hid (rv_start w U)
  obtain ⟨i0, hi, hz0, hz1, hz2⟩ := info_parts Try.info5
  go_enter Try.func14, Try.ntmps14
  go_wp2
  go_loopw [4, 6] (fun u n wr => ∃ k : Nat, k ≤ 18 ∧ n = .int .i64 k ∧ u = .int .u64 ((U / 10 ^ k : Nat) : Int) ∧ (k = 0 ∨ U / 10 ^ k ≠ 0) ∧ Rv wr w.heap.size U k ∧ Below w.heap.size w wr ∧ w.heap.size < wr.heap.size) (fun _ n _ => 20 - (intOf n).toNat)
  case atStart => exact ⟨0, by omega, rfl, congrArg (Value.int .u64) (by first | (rw [Nat.pow_zero, Nat.div_one]; done) | (rw [Nat.pow_zero, Nat.div_one]; omega)), .inl rfl, HR0.out, (Below.refl _ _).alloc (Nat.le_refl _) _, by simp⟩
  case round =>
    obtain ⟨k, hk, rfl, rfl, hnz, hrv, hbel, hsz⟩ := hrel
    clear HR0
    have hfz := hrv.free k
    obtain ⟨v0, hv0⟩ := hrv.any k (by omega)
    have HRV := hid (hrv.set (by omega))
    have HSZ : Hid (w.heap.size < (wr.setCell ⟨w.heap.size, k, none⟩ (.int .u8 (dg U k))).heap.size) := by show _ < _; simpa using hsz
    have HBL := hid (hbel.setCell (p := ⟨w.heap.size, k, none⟩) (Nat.le_refl _) (.int .u8 (dg U k)))
    have HDS := hid (div_step U k)
    have HPB : Hid (U / 10 ^ (k + 1) ≠ 0 → k + 1 ≤ 18) := fun h => pow_bound U (k + 1) hUb h
    have hub : U / 10 ^ k ≤ 9223372036854775808 := Nat.le_trans (Nat.div_le_self _ _) hUb
    have HNZ := hid hnz
    rw [dg_eq] at HRV HBL HSZ
    clear hrv hbel hnz
    generalize hx : U / 10 ^ k = x at *
    have HX := hid hx
    clear hx
    by_cases hlast : x < 10
    · have HDI : Hid (Digits U (k + 1)) := by
        refine ⟨by omega, by omega, by rw [HDS.out]; omega, ?_⟩
        rcases HNZ.out with h | h
        · exact .inl (by omega)
        · exact .inr (by rw [Nat.add_sub_cancel, HX.out]; exact h)
      have hlx : x / 10 = 0 := by omega
      go_wp2_with (first | (at_make; refine wpList_make_own _ rfl _ _ 22 rfl (w.heap.size + 1) 5 i0 (.int .u8 0) 1 Try.underlying22 hi hz0 hz1 _ _ _ (k + 2) rfl rfl (by omega) (by rw [hz2]; omega) (by unfold maxLen; omega) HSZ.out ?_; intro w2 hown2 hgrow2; rw [size_set] at hown2))
      have hbA : Below (w.heap.size + 1) _ w2 := (Below.refl (w.heap.size + 1) _).grown hgrow2 HSZ.out (by simp)
      have hdig : ∀ j, j < k + 1 → w2.cell? ⟨w.heap.size, j, none⟩ = some (.int .u8 (dg U j)) := fun j hj => (hbA.cell (p := ⟨w.heap.size, j, none⟩) (Nat.lt_succ_self _)).trans (HRV.out.digits j hj)
      have HBA := hid (HBL.out.trans (hbA.mono (Nat.le_succ _)))
      have hszA : w.heap.size + 1 ≤ w2.heap.size := Nat.le_trans HSZ.out hbA.size
      have HO := hid hown2
      clear hbA HRV HBL HSZ HDS HPB HNZ HX hown2 hgrow2 hv0 hfz hlx
      generalize wr.heap.size = G at *
      go_loopw [7, 8] (fun o i wx => ∃ j : Nat, j ≤ k + 1 ∧ i = .int .i64 ((k : Int) - j) ∧ o = .slice (some ⟨G, 0, none⟩) (j) (k + 2) ∧ wx.ownsRow (w.heap.size + 1) 5 1 (.slice (some ⟨G, 0, none⟩) (j) (k + 2)) (j) ((td U (k + 1) j).map (Value.int .u8)) ∧ Below (w.heap.size + 1) w2 wx) (fun _ i _ => (intOf i + 1).toNat)
      case atStart => exact ⟨0, by omega, by go_num, rfl, by simpa [td] using HO.out, Below.refl _ _⟩
      case round =>
        obtain ⟨j, hj, rfl, rfl, hown, hbx⟩ := hrel
        have hbx' := hbx.size
        by_cases hlt : j < k + 1
        · have hcx : wr.cell? ⟨w.heap.size, k - j, none⟩ = some (.int .u8 (dg U (k - j))) := (hbx.cell (p := ⟨w.heap.size, k - j, none⟩) (Nat.lt_succ_self _)).trans (hdig _ (by omega))
          have HTD : Hid (td U (k + 1) (j + 1) = td U (k + 1) j ++ [dg U (k - j)]) := rfl
          clear hdig HO
          generalize dg U (k - j) = d at *
          go_wp2_with (at_builtin; refine wpList_append_fits _ rfl (.tmp 44) (.tmp 48) 22 rfl (w.heap.size + 1) 5 i0 1 Try.underlying22 hi hz1 G (j) (k + 2) _ rfl (hown.alloc _) ⟨wr.heap.size, 0, none⟩ 1 1 [.int .u8 d] rfl rfl (cell_one_new _ _ _) (ints_oneCell .u8 [d]) (by omega) ?_; intro w4 hown4 hgrow4)
          have hG := (hown.lt G rfl).1
          go_roundw
          case rel =>
            refine ⟨j + 1, by omega, by go_num, rfl, ?_, (hbx.alloc (by omega) _).grown hgrow4 (by simp; omega) (fun q hq => by simp at hq; omega)⟩
            rw [HTD.out, List.map_append]
            exact hown4
          case measure => simp [intOf]; omega
        · have hjk : j = k + 1 := by omega
          subst hjk
          clear hdig HO
          go_wp2
          go_ret
          exact dec_end (neg := false) HDI.out hown (by rw [txt, List.length_append, td_len]; exact (Nat.zero_add _).symm) rfl (HBA.out.trans (hbx.mono (Nat.le_succ _)))

    · go_wp2
      go_roundw
      case rel =>
        have h1 : U / 10 ^ (k + 1) ≠ 0 := by rw [HDS.out]; omega
        exact ⟨k + 1, HPB.out h1, by go_num, congrArg (Value.int .u64) (by rw [HDS.out]; omega), .inr h1, HRV.out, HBL.out, HSZ.out⟩
      case measure => simp [intOf]; omega

end Go.Proofs.Qxb6601954a
