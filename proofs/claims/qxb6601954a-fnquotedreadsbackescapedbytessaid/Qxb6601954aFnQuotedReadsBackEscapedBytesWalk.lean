import Derived.Test.Qxb6601954aQBack
namespace Go.Proofs.Qxb6601954a.fnQuotedReadsBackEscapedBytes
open Go.ChangeShapes Go.WideShapes Go.ChangeAt Go.RowKit

set_option maxRecDepth 100000 in
set_option maxHeartbeats 3200000 in
theorem law_zero (a0 : Option Addr) (cap0 : Nat) (a1 : Option Addr) (l1 cap1 : Nat) (Z : List Int) (w : World) (hn0 : a0 = none → cap0 = 0) (hZ : Row w a1 l1 Z) (hn1 : a1 = none → l1 = 0 ∧ cap1 = 0) (hm1 : l1 ≤ maxLen) :
    Calls Try.prog 7 #[.slice a0 0 cap0, .slice a1 l1 cap1] w fun e w' => e = .returned (.bool true) ∧ Below w.heap.size w w' := by
  have hsz : Row w a0 0 [] := row_nil _ _
  have hz : ∀ j, 0 ≤ ([] : List Int).getD j 0 ∧ ([] : List Int).getD j 0 ≤ 255 := fun j => by simp
  have hm0 : (0 : Nat) ≤ maxLen := Nat.zero_le _
  have hm1' := hm1
  unfold maxLen at hm1'
  have hzZ := hZ.2.1
  have hlZ := hid hZ.1
  obtain ⟨i0, hi, hz0, hz1, hz2⟩ := info_parts Try.info5
  go_enter Try.func7, Try.ntmps7
  go_wp2_with fail
  refine (zz22_any a0 a1 0 cap0 l1 cap1 _ hm0 hm1).mono ?_
  rintro e w' ⟨⟨r, rfl⟩, hw⟩
  obtain rfl := hw.symm
  cases r
  · go_wp2
    go_ret
    exact ⟨rfl, Below.refl _ _⟩
  by_cases t2 : 1048576 < l1
  · go_wp2
    go_ret
    exact ⟨rfl, Below.refl _ _⟩
  have d2 : decide (1048576 < (l1 : Int)) = false := decide_eq_false (by omega)
  have d5 : decide (8388608 < (l1 : Int) + 3) = false := decide_eq_false (by omega)
  go_wp2_with fail
  refine (clone_any a0 0 cap0 ([] : List Int) _ hsz (fun h => ⟨rfl, hn0 h⟩) (by omega)).mono ?_
  rintro e w1 ⟨hcl, hb1⟩
  rcases hcl with ⟨_, aS, cS, rfl, _⟩ | ⟨h, _⟩
  rotate_left
  · simp at h
  go_wp2_with fail
  refine (clone_any a1 l1 cap1 Z _ (hZ.below hb1) hn1 (by omega)).mono ?_
  rintro e w2 ⟨hcl, hb2⟩
  obtain ⟨aT, cT, rfl, hno, hsrc⟩ := src_clone hcl
  rw [hlZ.out] at hno ⊢
  clear hcl
  go_wp2_with fail
  refine (enc_zero aS cS _).mono ?_
  rintro e w3 ⟨rfl, hoE, hb3⟩
  have hcE : ∀ j, j < 0 → w3.cell? ⟨w2.heap.size, j, none⟩ = some (.int .u8 ((enc ([] : List Int)).getD j 0)) := fun j hj => by omega
  have hgE : w2.heap.size < w3.heap.size := (hoE.lt w2.heap.size rfl).2
  have HEE : Hid (0 = (enc ([] : List Int)).length) := rfl
  have hB3 : Below w.heap.size w w3 := hb1.trans ((hb2.trans (hb3.mono hb2.size)).mono hb1.size)
  have HSRC := hid ((hsrc.below hb3).mono hb3.size)
  have HSE := hid (src_row (B := w3.heap.size) (zs := enc ([] : List Int)) hgE (by rw [← HEE.out]; exact hcE))
  have HCE := hid hcE
  clear hcE hoE hsrc hb1 hb2 hb3 hsz hZ
  go_wp2_with (first | (at_make; refine wpList_make_own _ rfl _ _ 22 rfl w3.heap.size 5 i0 (.int .u8 0) 1 Try.underlying22 hi hz0 hz1 _ _ _ (3 + l1) rfl rfl (by omega) (by rw [hz2]; omega) (by unfold maxLen; omega) (Nat.le_refl _) ?_; intro w4 hown4 hgrow4; have hb4 : Below w3.heap.size w3 w4 := (Below.refl _ _).grown hgrow4 (Nat.le_refl _) (by simp)) | (at_builtin; refine wpList_append_fits _ rfl (.tmp 54) (.tmp 55) 22 rfl w3.heap.size 5 i0 1 Try.underlying22 hi hz1 w3.heap.size 0 (3 + l1) [] rfl (hown4.alloc _) ⟨w4.heap.size, 0, none⟩ 2 2 [.int .u8 9, .int .u8 34] rfl rfl (cells_new _ _ _) (ints_oneCell .u8 [9, 34]) (by omega) ?_; intro w5 hown5 hgrow5; have hb5 : Below w3.heap.size w3 w5 := (hb4.alloc hb4.size _).grown hgrow5 (by simp; exact Nat.le_succ_of_le hb4.size) (fun q hq => by simp at hq; omega)) | (at_builtin; refine wpList_append_fits _ rfl (.tmp 57) (.tmp 58) 22 rfl w3.heap.size 5 i0 1 Try.underlying22 hi hz1 w3.heap.size 2 (3 + l1) _ rfl hown5 ⟨w2.heap.size, 0, none⟩ 0 0 ((enc ([] : List Int)).map (Value.int .u8)) rfl (by rw [List.length_map, Nat.mul_one, ← HEE.out]) (fun j u hu => ((HSE.out.below hb5) _ rfl j u hu).2) (ints_oneCell .u8 _) (by omega) ?_; intro w6 hown6 hgrow6; have hb6 : Below w3.heap.size w3 w6 := hb5.grown hgrow6 hb5.size (fun q hq => by simp at hq; omega)) | (at_builtin; refine wpList_append_fits _ rfl (.tmp 60) (.tmp 61) 22 rfl w3.heap.size 5 i0 1 Try.underlying22 hi hz1 w3.heap.size 2 (3 + l1) _ rfl (hown6.alloc _) ⟨w6.heap.size, 0, none⟩ 1 1 [.int .u8 34] rfl rfl (cells_new _ _ _) (ints_oneCell .u8 [34]) (by omega) ?_; intro w7 hown7 hgrow7; have hb7 : Below w3.heap.size w3 w7 := (hb6.alloc hb6.size _).grown hgrow7 (by simp; exact Nat.le_succ_of_le hb6.size) (fun q hq => by simp at hq; omega)) | (at_builtin; refine wpList_append_fits_any _ rfl (.tmp 63) (.tmp 64) 22 rfl w3.heap.size 5 i0 1 Try.underlying22 hi hz1 w3.heap.size 3 (3 + l1) _ rfl hown7 aT l1 cT (Z.map (Value.int .u8)) rfl (by rw [List.length_map, Nat.mul_one, hlZ.out]) hno (fun ad ha j u hu => ((HSRC.out.below hb7) ad ha j u hu).2) (ints_oneCell .u8 _) (by omega) ?_; intro w8 hown8 hgrow8; have hb8 : Below w3.heap.size w3 w8 := hb7.grown hgrow8 hb7.size (fun q hq => by simp at hq; omega)))
  have hrow : Row w8 (some ⟨w3.heap.size, 0, none⟩) (qwhole ([] : List Int) Z).length (qwhole ([] : List Int) Z) := row_own hown8 (qwhole_map ([] : List Int) Z) (qwhole_rng ([] : List Int) Z hz hzZ) (by have g0 := qwhole_len ([] : List Int) Z; have g1 := HEE.out; have g2 := hlZ.out; omega)
  have hG8 : w3.heap.size < w8.heap.size := (hown8.lt w3.heap.size rfl).2
  have HR8 := hid hrow
  have hnl : Hid (3 + l1 = (qwhole ([] : List Int) Z).length) := by show 3 + l1 = _; have g0 := qwhole_len ([] : List Int) Z; have g1 := HEE.out; have g2 := hlZ.out; omega
  have hB8 : Below w.heap.size w w8 := hB3.trans (hb8.mono hB3.size)
  have HB8 := hid hb8
  clear hown8 hgrow8 hown7 hgrow7 hown6 hgrow6 hown5 hgrow5 hown4 hgrow4 hb4 hb5 hb6 hb7 hrow hb8
  refine (zq_yes true ([] : List Int) Z (qwhole_true ([] : List Int) Z hz) w3.heap.size _ _ 0 _ hnl.out HEE.out (by omega) (by omega) HR8.out).mono ?_
  rintro e w9 ⟨rfl, hb9⟩
  have HB9 := hid (HB8.out.trans (hb9.mono HB8.out.size))
  have hB9 : Below w.heap.size w w9 := hB8.trans (hb9.mono hB8.size)
  have HT9 : Hid (∀ j, j < 0 → w9.cell? ⟨w3.heap.size, 2 + j, none⟩ = some (.int .u8 ((enc ([] : List Int)).getD j 0))) := by
    intro j hj
    obtain ⟨_, _, h3⟩ := HR8.out
    rcases h3 with h3 | ⟨b', off', hb', _, hc'⟩
    · rw [← hnl.out] at h3; omega
    · simp only [Option.some.injEq, Addr.mk.injEq] at hb'
      obtain ⟨rfl, rfl, _⟩ := hb'
      have := hc' (2 + j) (by rw [← hnl.out]; omega)
      rw [Nat.zero_add] at this
      rw [hb9.cell hG8, this, qwhole_at _ _ _ (by rw [← HEE.out]; exact hj)]
  have HE9 : Hid (∀ j, j < 0 → w9.cell? ⟨w2.heap.size, 0 + j, none⟩ = some (.int .u8 ((enc ([] : List Int)).getD j 0))) := fun j hj => by
    rw [Nat.zero_add]
    exact (HB9.out.cell hgE).trans (HCE.out j hj)
  have hb9s := hb9.size
  have HR9 := hid (HR8.out.below hb9)
  clear hb9
  have q22 : ∀ (w : World) (a : Option Addr) (n c n' c' : Nat), (binOp .eql 22 (.slice a n c) (.slice none n' c')).run Try.prog w = .ok (.bool a.isNone) w := fun w a n c n' c' => Lib.run_eql_slice_nil w _ _ a n c n' c' Try.underlying22
  have q22n : ∀ (w : World) (a : Option Addr) (n c n' c' : Nat), (binOp .neq 22 (.slice a n c) (.slice none n' c')).run Try.prog w = .ok (.bool (!a.isNone)) w := fun w a n c n' c' => run_neq_slice_nil_any w _ _ a n c n' c' Try.underlying22
  go_wp2_with fail
  refine (same_some w3.heap.size 2 _ w2.heap.size 0 _ 0 (fun j => (enc ([] : List Int)).getD j 0) _ (by omega) HT9.out HE9.out).mono ?_
  rintro e w10 ⟨rfl, hb10⟩
  have hB10 : Below w.heap.size w w10 := hB9.trans (hb10.mono hB9.size)
  have HR10 := hid (HR9.out.below hb10)
  go_wp2_with fail
  refine (zq_yes false ([] : List Int) Z (qwhole_false [] Z rfl) w3.heap.size _ _ 0 _ hnl.out HEE.out (by omega) (by omega) HR10.out).mono ?_
  rintro e w11 ⟨rfl, hb11⟩
  have hB11 : Below w.heap.size w w11 := hB10.trans (hb11.mono hB10.size)
  go_wp2_with fail
  refine (needs_zero aS cS _).mono ?_
  rintro e w' ⟨rfl, hw⟩
  obtain rfl := hw.symm
  go_wp2_with fail
  refine (same_zero _ _ _ _ _).mono ?_
  rintro e w' ⟨rfl, hw⟩
  obtain rfl := hw.symm
  go_wp2
  go_ret
  exact ⟨rfl, hB11⟩

set_option maxRecDepth 100000 in
set_option maxHeartbeats 3200000 in
theorem law_some (b off l0 cap0 : Nat) (zs : List Int) (a1 : Option Addr) (l1 cap1 : Nat) (Z : List Int) (w : World) (hl0 : zs.length = l0) (hp : 0 < l0) (hm0 : l0 ≤ maxLen) (hb : b < w.heap.size)
    (hz : ∀ j, 0 ≤ zs.getD j 0 ∧ zs.getD j 0 ≤ 255) (hc : ∀ j, j < l0 → w.cell? ⟨b, off + j, none⟩ = some (.int .u8 (zs.getD j 0))) (hZ : Row w a1 l1 Z) (hn1 : a1 = none → l1 = 0 ∧ cap1 = 0) (hm1 : l1 ≤ maxLen) :
    Calls Try.prog 7 #[.slice (some ⟨b, off, none⟩) l0 cap0, .slice a1 l1 cap1] w fun e w' => e = .returned (.bool true) ∧ Below w.heap.size w w' := by
  have hsz : Row w (some ⟨b, off, none⟩) l0 zs := ⟨hl0, hz, .inr ⟨b, off, rfl, hb, hc⟩⟩
  have hm0' := hm0
  unfold maxLen at hm0'
  have hm1' := hm1
  unfold maxLen at hm1'
  have hzZ := hZ.2.1
  have hlZ := hid hZ.1
  obtain ⟨i0, hi, hz0, hz1, hz2⟩ := info_parts Try.info5
  go_enter Try.func7, Try.ntmps7
  go_wp2_with fail
  refine (zz22_any (some ⟨b, off, none⟩) a1 l0 cap0 l1 cap1 _ hm0 hm1).mono ?_
  rintro e w' ⟨⟨r, rfl⟩, hw⟩
  obtain rfl := hw.symm
  cases r
  · go_wp2
    go_ret
    exact ⟨rfl, Below.refl _ _⟩
  clear hc
  by_cases t1 : 1048576 < l0
  · go_wp2
    go_ret
    exact ⟨rfl, Below.refl _ _⟩
  have d1 : decide (1048576 < (l0 : Int)) = false := decide_eq_false (by omega)
  by_cases t2 : 1048576 < l1
  · go_wp2
    go_ret
    exact ⟨rfl, Below.refl _ _⟩
  have d2 : decide (1048576 < (l1 : Int)) = false := decide_eq_false (by omega)
  by_cases t3 : 1048576 < l0 + l1
  · have d3 : decide (1048576 < (l0 : Int) + (l1 : Int)) = true := decide_eq_true (by omega)
    go_wp2
    go_ret
    exact ⟨rfl, Below.refl _ _⟩
  have d3 : decide (1048576 < (l0 : Int) + (l1 : Int)) = false := decide_eq_false (by omega)
  have d5 : decide (8388608 < 6 * (l0 : Int) + (l1 : Int) + 3) = false := decide_eq_false (by omega)
  go_wp2_with fail
  refine (clone_any (some ⟨b, off, none⟩) l0 cap0 zs _ hsz (fun h => by cases h) (by omega)).mono ?_
  rintro e w1 ⟨hcl, hb1⟩
  rcases hcl with ⟨h, _⟩ | ⟨hpos, rfl, hgS, hcS⟩
  · rw [h] at hl0; simp at hl0; omega
  rw [hl0] at hpos hcS ⊢
  have HL0 := hid hl0
  clear hl0
  go_wp2_with fail
  refine (clone_any a1 l1 cap1 Z _ (hZ.below hb1) hn1 (by omega)).mono ?_
  rintro e w2 ⟨hcl, hb2⟩
  obtain ⟨aT, cT, rfl, hno, hsrc⟩ := src_clone hcl
  rw [hlZ.out] at hno ⊢
  clear hcl
  go_wp2_with fail
  have hcS2 : ∀ j, j < l0 → w2.cell? ⟨w.heap.size, j, none⟩ = some (.int .u8 (zs.getD j 0)) := fun j hj => (hb2.cell hgS).trans (hcS j hj)
  refine (enc_some w.heap.size 0 l0 l0 zs _ HL0.out (by omega) (Nat.lt_of_lt_of_le hgS hb2.size) hz (fun j hj => by rw [Nat.zero_add]; exact hcS2 j hj)).mono ?_
  rintro e w3 ⟨rfl, hoE, hb3⟩
  obtain ⟨E, hE⟩ : ∃ E, E = (enc zs).length := ⟨_, rfl⟩
  have hcE : ∀ j, j < E → w3.cell? ⟨w2.heap.size, j, none⟩ = some (.int .u8 ((enc zs).getD j 0)) := fun j hj => by
    rw [hoE.cellAt j (by omega), List.getElem?_map, List.getElem?_eq_getElem (by omega)]
    simp [List.getD, show j < (enc zs).length by omega]
  have hgE : w2.heap.size < w3.heap.size := (hoE.lt w2.heap.size rfl).2
  rw [← hE]
  have hEb : E ≤ 6291456 := by have := enc_len zs; rw [HL0.out] at this; omega
  have HEE := hid hE
  have hB3 : Below w.heap.size w w3 := hb1.trans ((hb2.trans (hb3.mono hb2.size)).mono hb1.size)
  have HSRC := hid ((hsrc.below hb3).mono hb3.size)
  have HSE := hid (src_row (B := w3.heap.size) (zs := enc zs) hgE (by rw [← HEE.out]; exact hcE))
  have hcS3 : ∀ j, j < l0 → w3.cell? ⟨w.heap.size, j, none⟩ = some (.int .u8 (zs.getD j 0)) := fun j hj => (hb3.cell (Nat.lt_of_lt_of_le hgS hb2.size)).trans (hcS2 j hj)
  have HS3 := hid hcS3
  have hgS3 : w.heap.size < w3.heap.size := Nat.lt_of_lt_of_le hgS (Nat.le_trans hb2.size hb3.size)
  clear hcS2 hcS hcS3
  have HCE := hid hcE
  clear hE hcE hoE hsrc hb1 hb2 hb3 hsz hZ
  go_wp2_with (first | (at_make; refine wpList_make_own _ rfl _ _ 22 rfl w3.heap.size 5 i0 (.int .u8 0) 1 Try.underlying22 hi hz0 hz1 _ _ _ (3 + E + l1) rfl rfl (by omega) (by rw [hz2]; omega) (by unfold maxLen; omega) (Nat.le_refl _) ?_; intro w4 hown4 hgrow4; have hb4 : Below w3.heap.size w3 w4 := (Below.refl _ _).grown hgrow4 (Nat.le_refl _) (by simp)) | (at_builtin; refine wpList_append_fits _ rfl (.tmp 54) (.tmp 55) 22 rfl w3.heap.size 5 i0 1 Try.underlying22 hi hz1 w3.heap.size 0 (3 + E + l1) [] rfl (hown4.alloc _) ⟨w4.heap.size, 0, none⟩ 2 2 [.int .u8 9, .int .u8 34] rfl rfl (cells_new _ _ _) (ints_oneCell .u8 [9, 34]) (by omega) ?_; intro w5 hown5 hgrow5; have hb5 : Below w3.heap.size w3 w5 := (hb4.alloc hb4.size _).grown hgrow5 (by simp; exact Nat.le_succ_of_le hb4.size) (fun q hq => by simp at hq; omega)) | (at_builtin; refine wpList_append_fits _ rfl (.tmp 57) (.tmp 58) 22 rfl w3.heap.size 5 i0 1 Try.underlying22 hi hz1 w3.heap.size 2 (3 + E + l1) _ rfl hown5 ⟨w2.heap.size, 0, none⟩ E (6 * l0) ((enc zs).map (Value.int .u8)) rfl (by rw [List.length_map, Nat.mul_one, ← HEE.out]) (fun j u hu => ((HSE.out.below hb5) _ rfl j u hu).2) (ints_oneCell .u8 _) (by omega) ?_; intro w6 hown6 hgrow6; have hb6 : Below w3.heap.size w3 w6 := hb5.grown hgrow6 hb5.size (fun q hq => by simp at hq; omega)) | (at_builtin; refine wpList_append_fits _ rfl (.tmp 60) (.tmp 61) 22 rfl w3.heap.size 5 i0 1 Try.underlying22 hi hz1 w3.heap.size (2 + E) (3 + E + l1) _ rfl (hown6.alloc _) ⟨w6.heap.size, 0, none⟩ 1 1 [.int .u8 34] rfl rfl (cells_new _ _ _) (ints_oneCell .u8 [34]) (by omega) ?_; intro w7 hown7 hgrow7; have hb7 : Below w3.heap.size w3 w7 := (hb6.alloc hb6.size _).grown hgrow7 (by simp; exact Nat.le_succ_of_le hb6.size) (fun q hq => by simp at hq; omega)) | (at_builtin; refine wpList_append_fits_any _ rfl (.tmp 63) (.tmp 64) 22 rfl w3.heap.size 5 i0 1 Try.underlying22 hi hz1 w3.heap.size (2 + E + 1) (3 + E + l1) _ rfl hown7 aT l1 cT (Z.map (Value.int .u8)) rfl (by rw [List.length_map, Nat.mul_one, hlZ.out]) hno (fun ad ha j u hu => ((HSRC.out.below hb7) ad ha j u hu).2) (ints_oneCell .u8 _) (by omega) ?_; intro w8 hown8 hgrow8; have hb8 : Below w3.heap.size w3 w8 := hb7.grown hgrow8 hb7.size (fun q hq => by simp at hq; omega)))
  have hrow : Row w8 (some ⟨w3.heap.size, 0, none⟩) (qwhole zs Z).length (qwhole zs Z) := row_own hown8 (qwhole_map zs Z) (qwhole_rng zs Z hz hzZ) (by have g0 := qwhole_len zs Z; have g1 := HEE.out; have g2 := hlZ.out; omega)
  have hG8 : w3.heap.size < w8.heap.size := (hown8.lt w3.heap.size rfl).2
  have HR8 := hid hrow
  have hnl : Hid (2 + E + 1 + l1 = (qwhole zs Z).length) := by show 2 + E + 1 + l1 = _; have g0 := qwhole_len zs Z; have g1 := HEE.out; have g2 := hlZ.out; omega
  have hB8 : Below w.heap.size w w8 := hB3.trans (hb8.mono hB3.size)
  have HB8 := hid hb8
  clear hown8 hgrow8 hown7 hgrow7 hown6 hgrow6 hown5 hgrow5 hown4 hgrow4 hb4 hb5 hb6 hb7 hrow hb8
  refine (zq_yes true zs Z (qwhole_true zs Z hz) w3.heap.size _ _ E _ hnl.out HEE.out (by omega) (by omega) HR8.out).mono ?_
  rintro e w9 ⟨rfl, hb9⟩
  have HB9 := hid (HB8.out.trans (hb9.mono HB8.out.size))
  have hB9 : Below w.heap.size w w9 := hB8.trans (hb9.mono hB8.size)
  have HT9 : Hid (∀ j, j < E → w9.cell? ⟨w3.heap.size, 2 + j, none⟩ = some (.int .u8 ((enc zs).getD j 0))) := by
    intro j hj
    obtain ⟨_, _, h3⟩ := HR8.out
    rcases h3 with h3 | ⟨b', off', hb', _, hc'⟩
    · rw [← hnl.out] at h3; omega
    · simp only [Option.some.injEq, Addr.mk.injEq] at hb'
      obtain ⟨rfl, rfl, _⟩ := hb'
      have := hc' (2 + j) (by rw [← hnl.out]; omega)
      rw [Nat.zero_add] at this
      rw [hb9.cell hG8, this, qwhole_at _ _ _ (by rw [← HEE.out]; exact hj)]
  have HE9 : Hid (∀ j, j < E → w9.cell? ⟨w2.heap.size, 0 + j, none⟩ = some (.int .u8 ((enc zs).getD j 0))) := fun j hj => by
    rw [Nat.zero_add]
    exact (HB9.out.cell hgE).trans (HCE.out j hj)
  have hb9s := hb9.size
  have HR9 := hid (HR8.out.below hb9)
  clear hb9
  have q22 : ∀ (w : World) (a : Option Addr) (n c n' c' : Nat), (binOp .eql 22 (.slice a n c) (.slice none n' c')).run Try.prog w = .ok (.bool a.isNone) w := fun w a n c n' c' => Lib.run_eql_slice_nil w _ _ a n c n' c' Try.underlying22
  have q22n : ∀ (w : World) (a : Option Addr) (n c n' c' : Nat), (binOp .neq 22 (.slice a n c) (.slice none n' c')).run Try.prog w = .ok (.bool (!a.isNone)) w := fun w a n c n' c' => run_neq_slice_nil_any w _ _ a n c n' c' Try.underlying22
  go_wp2_with fail
  refine (same_some w3.heap.size 2 _ w2.heap.size 0 _ E (fun j => (enc zs).getD j 0) _ (by omega) HT9.out HE9.out).mono ?_
  rintro e w10 ⟨rfl, hb10⟩
  have hB10 : Below w.heap.size w w10 := hB9.trans (hb10.mono hB9.size)
  have HR10 := hid (HR9.out.below hb10)
  by_cases hnd : zs.any needs = true
  · go_wp2_with fail
    refine (zq_no zs Z (qwhole_refused zs Z hnd) w3.heap.size _ _ _ hnl.out (by omega) (by omega) HR10.out).mono ?_
    rintro e w11 ⟨rfl, hb11⟩
    have hB11 : Below w.heap.size w w11 := hB10.trans (hb11.mono hB10.size)
    have HC11 : Hid (∀ j, j < l0 → w11.cell? ⟨w.heap.size, 0 + j, none⟩ = some (.int .u8 (zs.getD j 0))) := fun j hj => by
      rw [Nat.zero_add]
      have h9 : w.heap.size < w9.heap.size := Nat.lt_of_lt_of_le hgS3 HB9.out.size
      exact (hb11.cell (Nat.lt_of_lt_of_le h9 hb10.size)).trans ((hb10.cell h9).trans ((HB9.out.cell hgS3).trans (HS3.out j hj)))
    go_wp2_with fail
    refine (needs_some w.heap.size 0 l0 l0 zs _ HL0.out (by omega) hz HC11.out).mono ?_
    rintro e w' ⟨rfl, hw⟩
    obtain rfl := hw.symm
    rw [hnd]
    go_wp2
    go_ret
    exact ⟨rfl, hB11⟩
  · have hnf : zs.any needs = false := by simpa using hnd
    go_wp2_with fail
    refine (zq_yes false zs Z (qwhole_false zs Z hnf) w3.heap.size _ _ E _ hnl.out HEE.out (by omega) (by omega) HR10.out).mono ?_
    rintro e w11 ⟨rfl, hb11⟩
    have hB11 : Below w.heap.size w w11 := hB10.trans (hb11.mono hB10.size)
    have h9 : w.heap.size < w9.heap.size := Nat.lt_of_lt_of_le hgS3 HB9.out.size
    have HC11 : Hid (∀ j, j < l0 → w11.cell? ⟨w.heap.size, 0 + j, none⟩ = some (.int .u8 (zs.getD j 0))) := fun j hj => by
      rw [Nat.zero_add]
      exact (hb11.cell (Nat.lt_of_lt_of_le h9 hb10.size)).trans ((hb10.cell h9).trans ((HB9.out.cell hgS3).trans (HS3.out j hj)))
    have hEl : Hid (E = l0) := by show E = l0; rw [HEE.out, enc_id zs hnf]; exact HL0.out
    have hg9 : w3.heap.size < w9.heap.size := Nat.lt_of_lt_of_le hG8 hb9s
    have HT11 : Hid (∀ j, j < E → w11.cell? ⟨w3.heap.size, 2 + j, none⟩ = some (.int .u8 (zs.getD j 0))) := fun j hj => by
      have := HT9.out j hj
      rw [enc_id zs hnf] at this
      exact (hb11.cell (Nat.lt_of_lt_of_le hg9 hb10.size)).trans ((hb10.cell hg9).trans this)
    go_wp2_with fail
    refine (needs_some w.heap.size 0 l0 l0 zs _ HL0.out (by omega) hz HC11.out).mono ?_
    rintro e w' ⟨rfl, hw⟩
    obtain rfl := hw.symm
    rw [hnf]
    go_wp2_with fail
    rw [hEl.out]
    refine (same_some w3.heap.size 2 _ w.heap.size 0 _ l0 (fun j => zs.getD j 0) _ (by omega) (by rw [← hEl.out]; exact HT11.out) HC11.out).mono ?_
    rintro e w12 ⟨rfl, hb12⟩
    go_wp2
    go_ret
    exact ⟨rfl, hB11.trans (hb12.mono hB11.size)⟩

theorem law (a0 : Option Addr) (l0 cap0 : Nat) (zs : List Int) (a1 : Option Addr) (l1 cap1 : Nat) (Z : List Int) (w : World) (h0 : Row w a0 l0 zs) (hn0 : a0 = none → l0 = 0 ∧ cap0 = 0) (hm0 : l0 ≤ maxLen) (hZ : Row w a1 l1 Z) (hn1 : a1 = none → l1 = 0 ∧ cap1 = 0) (hm1 : l1 ≤ maxLen) :
    Calls Try.prog 7 #[.slice a0 l0 cap0, .slice a1 l1 cap1] w fun e w' => e = .returned (.bool true) ∧ Below w.heap.size w w' := by
  obtain ⟨hl, hz, h3⟩ := h0
  by_cases h : l0 = 0
  · subst h
    exact law_zero a0 cap0 a1 l1 cap1 Z w (fun h => (hn0 h).2) hZ hn1 hm1
  · rcases h3 with h3 | ⟨b, off, rfl, hb, hc⟩
    · exact absurd h3 h
    · exact law_some b off l0 cap0 zs a1 l1 cap1 Z w hl (by omega) hm0 hb hz hc hZ hn1 hm1

end Go.Proofs.Qxb6601954a.fnQuotedReadsBackEscapedBytes
