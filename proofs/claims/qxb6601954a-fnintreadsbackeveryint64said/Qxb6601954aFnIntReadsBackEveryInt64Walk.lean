import Derived.Test.Qxb6601954aSrc
namespace Go.Proofs.Qxb6601954a.fnIntReadsBackEveryInt64
open Go.ChangeShapes Go.WideShapes Go.ChangeAt Go.RowKit

theorem whole_map (neg : Bool) (U N : Nat) (Z : List Int) : (([] : List Value) ++ [.int .u8 32, .int .u8 10] ++ (txt neg U N).map (Value.int .u8)) ++ Z.map (Value.int .u8) = (whole neg U N Z).map (Value.int .u8) := by
  simp [whole]
/-- bytes -/
def Rng (l : List Int) : Prop := ∀ j, 0 ≤ l.getD j 0 ∧ l.getD j 0 ≤ 255
theorem rng_app {a b : List Int} (ha : Rng a) (hb : Rng b) : Rng (a ++ b) := by
  intro j
  rw [getD_app]
  split
  · exact ha j
  · exact hb _
theorem rng_nil : Rng [] := fun j => by simp
theorem rng_one {c : Int} (h : 0 ≤ c ∧ c ≤ 255) : Rng [c] := by
  intro j
  cases j with
  | zero => exact h
  | succ j => simp
theorem rng_td (U N i : Nat) : Rng (td U N i) := by
  induction i with
  | zero => exact rng_nil
  | succ i ih => exact rng_app ih (rng_one (by have := dg_bound U (N - 1 - i); omega))
theorem whole_range (neg : Bool) (U N : Nat) (Z : List Int) (hZ : ∀ j, 0 ≤ Z.getD j 0 ∧ Z.getD j 0 ≤ 255) (j : Nat) : 0 ≤ (whole neg U N Z).getD j 0 ∧ (whole neg U N Z).getD j 0 ≤ 255 := by
  refine rng_app (rng_app (a := [32]) (b := [10]) (rng_one (by omega)) (rng_one (by omega))) (rng_app (rng_app ?_ (rng_td U N N)) hZ) j
  cases neg
  · exact rng_nil
  · exact rng_one (by omega)

set_option maxHeartbeats 1600000 in
theorem law_zero (v : Int) (a : Option Addr) (cap : Nat) (w : World) (h1 : -9223372036854775808 ≤ v) (h2 : v ≤ 9223372036854775807) (hn : a = none → cap = 0) :
    Calls Try.prog 4 #[.int .i64 v, .slice a 0 cap] w fun e w' => e = .returned (.bool true) ∧ Below w.heap.size w w' := by
  obtain ⟨i0, hi, hz0, hz1, hz2⟩ := info_parts Try.info5
  go_enter Try.func4, Try.ntmps4
  go_wp2_with fail
  refine (zz12_any v a 0 cap _ (Nat.zero_le _)).mono ?_
  rintro e w' ⟨⟨r, rfl⟩, hw⟩
  obtain rfl := hw.symm
  cases r
  · go_wp2
    go_ret
    exact ⟨rfl, Below.refl _ _⟩
  go_wp2_with fail
  refine (clone_any a 0 cap [] _ (row_nil _ _) (fun h => ⟨rfl, hn h⟩) (by omega)).mono ?_
  rintro e w1 ⟨hcl, hb1⟩
  obtain ⟨a1, c1, rfl, hno, hsrc⟩ := src_clone hcl
  clear hcl
  go_wp2_with fail
  refine (dec_any v _ h1 h2).mono ?_
  rintro e w2 ⟨neg, U, hU, hv, N, g, c, hd, rfl, hg, hct, hb2⟩
  have hB2 : Below w.heap.size w w2 := hb1.trans (hb2.mono hb1.size)
  have hsrc2 := hsrc.below hb2
  have hsz2 := hb2.size
  have hsT := src_row (zs := txt neg U N) hg hct
  have HT : Hid ((txt neg U N).length ≤ 20) := by show (txt neg U N).length ≤ 20; rw [txt_len]; obtain ⟨_, h, _⟩ := hd; cases neg <;> simp <;> omega
  obtain ⟨T, hT⟩ : ∃ T, T = (txt neg U N).length := ⟨_, rfl⟩
  rw [← hT]
  have hT20 : T ≤ 20 := by rw [hT]; exact HT.out
  have HTT := hid hT
  have HV := hid hv
  have HSRC := hid hsrc2
  have HST := hid hsT
  have HD := hid hd
  clear hT hv hsrc2 hsT hct hsrc hb1 hb2 HT hd
  go_wp2_with (first | (at_make; refine wpList_make_own _ rfl _ _ 22 rfl w2.heap.size 5 i0 (.int .u8 0) 1 Try.underlying22 hi hz0 hz1 _ _ _ (2 + T + 0) rfl rfl (by omega) (by rw [hz2]; omega) (by unfold maxLen; omega) (Nat.le_refl _) ?_; intro w3 hown3 hgrow3; have hb3 : Below w2.heap.size w2 w3 := (Below.refl _ _).grown hgrow3 (Nat.le_refl _) (by simp)) | (at_builtin; refine wpList_append_fits _ rfl (.tmp 37) (.tmp 38) 22 rfl w2.heap.size 5 i0 1 Try.underlying22 hi hz1 w2.heap.size 0 (2 + T + 0) [] rfl (hown3.alloc _) ⟨w3.heap.size, 0, none⟩ 2 2 [.int .u8 32, .int .u8 10] rfl rfl (cells_new _ _ _) (ints_oneCell .u8 [32, 10]) (by omega) ?_; intro w4 hown4 hgrow4; have hb4 : Below w2.heap.size w2 w4 := (hb3.alloc hb3.size _).grown hgrow4 (by simp; exact Nat.le_succ_of_le hb3.size) (fun q hq => by simp at hq; omega)) | (at_builtin; refine wpList_append_fits _ rfl (.tmp 40) (.tmp 41) 22 rfl w2.heap.size 5 i0 1 Try.underlying22 hi hz1 w2.heap.size 2 (2 + T + 0) _ rfl hown4 ⟨g, 0, none⟩ T c ((txt neg U N).map (Value.int .u8)) rfl (by rw [List.length_map, Nat.mul_one, ← HTT.out]) (fun j u hu => ((HST.out.below hb4) _ rfl j u hu).2) (ints_oneCell .u8 _) (by omega) ?_; intro w5 hown5 hgrow5; have hb5 : Below w2.heap.size w2 w5 := hb4.grown hgrow5 hb4.size (fun q hq => by simp at hq; omega)) | (at_builtin; refine wpList_append_fits_any _ rfl (.tmp 43) (.tmp 44) 22 rfl w2.heap.size 5 i0 1 Try.underlying22 hi hz1 w2.heap.size (2 + T) (2 + T + 0) _ rfl hown5 a1 0 c1 ((([] : List Int)).map (Value.int .u8)) rfl (by simp) hno (fun ad ha j u hu => (((HSRC.out.mono hsz2).below hb5) ad ha j u hu).2) (ints_oneCell .u8 _) (by omega) ?_; intro w6 hown6 hgrow6; have hb6 : Below w2.heap.size w2 w6 := hb5.grown hgrow6 hb5.size (fun q hq => by simp at hq; omega)))
  refine (zint_back neg U N (([] : List Int)) v HD.out hU (by simp) HV.out _ _ _ T _ (by rw [whole_len, HTT.out, txt_len]; try rfl) HTT.out (row_own hown6 (whole_map neg U N _) (whole_range neg U N _ (fun j => by simp)) (by rw [whole_len, HTT.out, txt_len]; try rfl)) (by omega)).mono ?_
  rintro e w7 ⟨rfl, hb7⟩
  have hbl : Below w.heap.size w w7 := hB2.trans ((hb6.trans (hb7.mono hb6.size)).mono hB2.size)
  clear hb6 hb7 hown6 hgrow6 HSRC HST
  go_wp2
  go_ret
  exact ⟨rfl, hbl⟩
set_option maxHeartbeats 1600000 in
theorem law_some (v : Int) (b off len cap : Nat) (zs : List Int) (w : World) (h1 : -9223372036854775808 ≤ v) (h2 : v ≤ 9223372036854775807) (hl : zs.length = len) (hp : 0 < len) (hm : len ≤ maxLen) (hb : b < w.heap.size)
    (hz : ∀ j, 0 ≤ zs.getD j 0 ∧ zs.getD j 0 ≤ 255) (hc : ∀ j, j < len → w.cell? ⟨b, off + j, none⟩ = some (.int .u8 (zs.getD j 0))) :
    Calls Try.prog 4 #[.int .i64 v, .slice (some ⟨b, off, none⟩) len cap] w fun e w' => e = .returned (.bool true) ∧ Below w.heap.size w w' := by
  have hm' := hm
  unfold maxLen at hm'
  obtain ⟨i0, hi, hz0, hz1, hz2⟩ := info_parts Try.info5
  have hrow : Row w (some ⟨b, off, none⟩) len zs := ⟨hl, hz, .inr ⟨b, off, rfl, hb, hc⟩⟩
  have hc0 : w.cell? ⟨b, off, none⟩ = some (.int .u8 (zs.getD 0 0)) := by simpa using hc 0 hp
  have hpi : (0 : Int) < (len : Int) := by omega
  go_enter Try.func4, Try.ntmps4
  go_wp2_with fail
  refine (zz12_any v (some ⟨b, off, none⟩) len cap _ hm).mono ?_
  rintro e w' ⟨⟨r, rfl⟩, hw⟩
  obtain rfl := hw.symm
  cases r
  · go_wp2
    go_ret
    exact ⟨rfl, Below.refl _ _⟩
  by_cases c1 : 1048576 < len
  · clear hc
    go_wp2
    go_ret
    exact ⟨rfl, Below.refl _ _⟩
  clear hc
  obtain ⟨z0, hz00⟩ : ∃ z0, z0 = zs.getD 0 0 := ⟨_, rfl⟩
  rw [← hz00] at hc0
  have HZ0 := hid hz00
  clear hz00
  go_wp2_with fail
  refine (dig_any z0 _).mono ?_
  rintro e w' ⟨rfl, hw⟩
  obtain rfl := hw.symm
  by_cases hdg : isDig z0 = true
  · rw [hdg]
    go_wp2
    go_ret
    exact ⟨rfl, Below.refl _ _⟩
  have hdf : isDig z0 = false := by simpa using hdg
  have hnd : ¬ (48 ≤ zs.getD 0 0 ∧ zs.getD 0 0 ≤ 57) := by rw [← HZ0.out]; exact (isDig_not z0).1 hdf
  rw [hdf]
  have HND := hid hnd
  have HLL := hid hl
  clear hdg hdf hnd hl
  go_wp2_with fail
  refine (clone_any (some ⟨b, off, none⟩) len cap zs _ hrow (fun h => by cases h) (by omega)).mono ?_
  rintro e w1 ⟨hcl, hb1⟩
  obtain ⟨a1, c1, rfl, hno, hsrc⟩ := src_clone hcl
  have hlen : zs.length ≤ 1048576 := by rw [HLL.out]; omega
  clear hcl hrow hc0
  go_wp2_with fail
  refine (dec_any v _ h1 h2).mono ?_
  rintro e w2 ⟨neg, U, hU, hv, N, g, c, hd, rfl, hg, hct, hb2⟩
  have hB2 : Below w.heap.size w w2 := hb1.trans (hb2.mono hb1.size)
  have hsrc2 := hsrc.below hb2
  have hsz2 := hb2.size
  have hsT := src_row (zs := txt neg U N) hg hct
  have HT : Hid ((txt neg U N).length ≤ 20) := by show (txt neg U N).length ≤ 20; rw [txt_len]; obtain ⟨_, h, _⟩ := hd; cases neg <;> simp <;> omega
  obtain ⟨T, hT⟩ : ∃ T, T = (txt neg U N).length := ⟨_, rfl⟩
  rw [← hT]
  have hT20 : T ≤ 20 := by rw [hT]; exact HT.out
  have HTT := hid hT
  have HV := hid hv
  have HSRC := hid hsrc2
  have HST := hid hsT
  have HD := hid hd
  clear hT hv hsrc2 hsT hct hsrc hb1 hb2 HT hd
  go_wp2_with (first | (at_make; refine wpList_make_own _ rfl _ _ 22 rfl w2.heap.size 5 i0 (.int .u8 0) 1 Try.underlying22 hi hz0 hz1 _ _ _ (2 + T + zs.length) rfl rfl (by omega) (by rw [hz2]; omega) (by unfold maxLen; omega) (Nat.le_refl _) ?_; intro w3 hown3 hgrow3; have hb3 : Below w2.heap.size w2 w3 := (Below.refl _ _).grown hgrow3 (Nat.le_refl _) (by simp)) | (at_builtin; refine wpList_append_fits _ rfl (.tmp 37) (.tmp 38) 22 rfl w2.heap.size 5 i0 1 Try.underlying22 hi hz1 w2.heap.size 0 (2 + T + zs.length) [] rfl (hown3.alloc _) ⟨w3.heap.size, 0, none⟩ 2 2 [.int .u8 32, .int .u8 10] rfl rfl (cells_new _ _ _) (ints_oneCell .u8 [32, 10]) (by omega) ?_; intro w4 hown4 hgrow4; have hb4 : Below w2.heap.size w2 w4 := (hb3.alloc hb3.size _).grown hgrow4 (by simp; exact Nat.le_succ_of_le hb3.size) (fun q hq => by simp at hq; omega)) | (at_builtin; refine wpList_append_fits _ rfl (.tmp 40) (.tmp 41) 22 rfl w2.heap.size 5 i0 1 Try.underlying22 hi hz1 w2.heap.size 2 (2 + T + zs.length) _ rfl hown4 ⟨g, 0, none⟩ T c ((txt neg U N).map (Value.int .u8)) rfl (by rw [List.length_map, Nat.mul_one, ← HTT.out]) (fun j u hu => ((HST.out.below hb4) _ rfl j u hu).2) (ints_oneCell .u8 _) (by omega) ?_; intro w5 hown5 hgrow5; have hb5 : Below w2.heap.size w2 w5 := hb4.grown hgrow5 hb4.size (fun q hq => by simp at hq; omega)) | (at_builtin; refine wpList_append_fits_any _ rfl (.tmp 43) (.tmp 44) 22 rfl w2.heap.size 5 i0 1 Try.underlying22 hi hz1 w2.heap.size (2 + T) (2 + T + zs.length) _ rfl hown5 a1 zs.length c1 ((zs).map (Value.int .u8)) rfl (by simp) hno (fun ad ha j u hu => (((HSRC.out.mono hsz2).below hb5) ad ha j u hu).2) (ints_oneCell .u8 _) (by omega) ?_; intro w6 hown6 hgrow6; have hb6 : Below w2.heap.size w2 w6 := hb5.grown hgrow6 hb5.size (fun q hq => by simp at hq; omega)))
  refine (zint_back neg U N (zs) v HD.out hU (fun _ => HND.out) HV.out _ _ _ T _ (by rw [whole_len, HTT.out, txt_len]; try rfl) HTT.out (row_own hown6 (whole_map neg U N _) (whole_range neg U N _ hz) (by rw [whole_len, HTT.out, txt_len]; try rfl)) (by omega)).mono ?_
  rintro e w7 ⟨rfl, hb7⟩
  have hbl : Below w.heap.size w w7 := hB2.trans ((hb6.trans (hb7.mono hb6.size)).mono hB2.size)
  clear hb6 hb7 hown6 hgrow6 HSRC HST
  go_wp2
  go_ret
  exact ⟨rfl, hbl⟩

theorem law (v : Int) (a : Option Addr) (len cap : Nat) (zs : List Int) (w : World) (h1 : -9223372036854775808 ≤ v) (h2 : v ≤ 9223372036854775807) (h : Row w a len zs) (hn : a = none → len = 0 ∧ cap = 0) (hm : len ≤ maxLen) :
    Calls Try.prog 4 #[.int .i64 v, .slice a len cap] w fun e w' => e = .returned (.bool true) ∧ Below w.heap.size w w' := by
  obtain ⟨hl, hz, h3⟩ := h
  by_cases h0 : len = 0
  · subst h0
    exact law_zero v a cap w h1 h2 (fun h => (hn h).2)
  · rcases h3 with h3 | ⟨b, off, rfl, hb, hc⟩
    · exact absurd h3 h0
    · exact law_some v b off len cap zs w h1 h2 hl (by omega) hm hb hz hc
end Go.Proofs.Qxb6601954a.fnIntReadsBackEveryInt64
