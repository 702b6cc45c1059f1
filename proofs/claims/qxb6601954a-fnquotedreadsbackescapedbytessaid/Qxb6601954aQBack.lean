import Derived.Test.Qxb6601954aNeeds
namespace Go.Proofs.Qxb6601954a
open Go.ChangeShapes Go.WideShapes Go.ChangeAt Go.RowKit

/-- the text that the law reads back -/
def qwhole (zs Z : List Int) : List Int := [9, 34] ++ (enc zs ++ (34 :: Z))
theorem qwhole_len (zs Z : List Int) : (qwhole zs Z).length = 2 + (enc zs).length + 1 + Z.length := by
  simp [qwhole]; omega
theorem qwhole_at (zs Z : List Int) (j : Nat) (h : j < (enc zs).length) : (qwhole zs Z).getD (2 + j) 0 = (enc zs).getD j 0 := by
  rw [qwhole, getD_app, if_neg (by simp), getD_app, if_pos (by simp; omega)]
  congr 1
  simp
theorem qwhole_skip (zs Z : List Int) : skip (qwhole zs Z) 0 = 1 := by
  have h := qwhole_len zs Z
  rw [skip_yes _ 0 (by omega) rfl, skip_no _ 1 (by omega) rfl]
theorem qwhole_res (es : Bool) (zs Z : List Int) : qres es (qwhole zs Z) 1 = qs es (qwhole zs Z) 2 := by
  have h := qwhole_len zs Z
  rw [qres, if_pos ⟨by omega, rfl⟩]
theorem bytes_of (zs : List Int) (hz : ∀ j, 0 ≤ zs.getD j 0 ∧ zs.getD j 0 ≤ 255) : ∀ c ∈ zs, 0 ≤ c ∧ c ≤ 255 := by
  intro c hc
  obtain ⟨j, hj, rfl⟩ := List.mem_iff_getElem.1 hc
  have := hz j
  have e : zs.getD j 0 = zs[j] := by simp [List.getD, hj]
  rwa [e] at this
theorem qwhole_true (zs Z : List Int) (hz : ∀ j, 0 ≤ zs.getD j 0 ∧ zs.getD j 0 ≤ 255) : qs true (qwhole zs Z) 2 = some (2 + (enc zs).length) :=
  qs_enc zs [9, 34] Z (bytes_of zs hz)
theorem none_of_any (zs : List Int) (h : zs.any needs = false) : ∀ c ∈ zs, needs c = false := by
  intro c hc
  by_cases e : needs c = true
  · rw [List.any_eq_true.2 ⟨c, hc, e⟩] at h; cases h
  · simpa using e
theorem enc_id (zs : List Int) (h : zs.any needs = false) : enc zs = zs := enc_plain zs (none_of_any zs h)
theorem qwhole_false (zs Z : List Int) (h : zs.any needs = false) : qs false (qwhole zs Z) 2 = some (2 + (enc zs).length) := by
  have := qs_plain zs [9, 34] Z (none_of_any zs h)
  rw [qwhole, enc_id zs h]
  exact this
theorem qwhole_refused (zs Z : List Int) (h : zs.any needs = true) : qs false (qwhole zs Z) 2 = none := by
  obtain ⟨c, hc, hn⟩ := List.any_eq_true.1 h
  exact qs_refused zs [9, 34] Z ⟨c, hc, hn⟩
theorem enc1_rng (c : Int) (h0 : 0 ≤ c) (h1 : c ≤ 255) : ∀ z ∈ enc1 c, 0 ≤ z ∧ z ≤ 255 := by
  unfold enc1
  split
  · intro z hz; simp at hz; omega
  · split
    · intro z hz; simp at hz; omega
    · split
      · intro z hz; simp at hz; omega
      · split
        · intro z hz; simp at hz; omega
        · split
          · rename_i h5
            have a1 := hx_bound (c / 16) (by omega) (by omega)
            have a2 := hx_bound (c % 16) (by omega) (by omega)
            intro z hz
            simp at hz
            omega
          · intro z hz; simp at hz; omega
theorem enc_rng (zs : List Int) (h : ∀ c ∈ zs, 0 ≤ c ∧ c ≤ 255) : ∀ z ∈ enc zs, 0 ≤ z ∧ z ≤ 255 := by
  induction zs with
  | nil => intro z hz; simp [enc] at hz
  | cons c s ih =>
    intro z hz
    rw [enc, List.mem_append] at hz
    rcases hz with hz | hz
    · exact enc1_rng c (h c (by simp)).1 (h c (by simp)).2 z hz
    · exact ih (fun d hd => h d (by simp [hd])) z hz
theorem getD_rng (l : List Int) (h : ∀ c ∈ l, 0 ≤ c ∧ c ≤ 255) (j : Nat) : 0 ≤ l.getD j 0 ∧ l.getD j 0 ≤ 255 := by
  by_cases hj : j < l.length
  · have e : l.getD j 0 = l[j] := by simp [List.getD, hj]
    rw [e]
    exact h _ (List.getElem_mem hj)
  · rw [List.getD, List.getElem?_eq_none (by omega)]
    exact ⟨by simp, by simp⟩
theorem qwhole_rng (zs Z : List Int) (hz : ∀ j, 0 ≤ zs.getD j 0 ∧ zs.getD j 0 ≤ 255) (hZ : ∀ j, 0 ≤ Z.getD j 0 ∧ Z.getD j 0 ≤ 255) : ∀ j, 0 ≤ (qwhole zs Z).getD j 0 ∧ (qwhole zs Z).getD j 0 ≤ 255 := by
  refine getD_rng _ (fun c hc => ?_)
  rw [qwhole, List.mem_append, List.mem_append] at hc
  rcases hc with hc | hc | hc
  · simp at hc; omega
  · exact enc_rng zs (bytes_of zs hz) c hc
  · rcases List.mem_cons.1 hc with rfl | hc
    · omega
    · exact bytes_of Z hZ c hc
theorem qwhole_map (zs Z : List Int) : ((([] : List Value) ++ [.int .u8 9, .int .u8 34] ++ (enc zs).map (Value.int .u8)) ++ [.int .u8 34]) ++ Z.map (Value.int .u8) = (qwhole zs Z).map (Value.int .u8) := by
  simp [qwhole]

/-- ZZQuoted at the law's own text -/
theorem zq_yes (es : Bool) (zs Z : List Int) (hq : qs es (qwhole zs Z) 2 = some (2 + (enc zs).length)) (G n cap E : Nat) (w : World) (hn : n = (qwhole zs Z).length) (hE : E = (enc zs).length) (hm : n ≤ 8388608) (hcap : n ≤ cap)
    (h : Row w (some ⟨G, 0, none⟩) (qwhole zs Z).length (qwhole zs Z)) :
    Calls Try.prog 16 #[.slice (some ⟨G, 0, none⟩) n cap, .int .i64 0, .bool es] w fun e w' => e = .returned (.tuple #[.slice (some ⟨G, 2, none⟩) E (cap - 2), .bool true, .int .i64 (3 + (E : Int))]) ∧ Below w.heap.size w w' := by
  obtain ⟨h1, h2, h3⟩ := h
  subst hn
  have hlen := qwhole_len zs Z
  rcases h3 with h3 | ⟨b, off, hb, hlt, hc⟩
  · omega
  · simp only [Option.some.injEq, Addr.mk.injEq] at hb
    obtain ⟨rfl, rfl, _⟩ := hb
    refine (zq_some es G 0 _ cap 0 (qwhole zs Z) w rfl hm hcap (Nat.zero_le _) hlt h2 hc).mono ?_
    rintro e w' ⟨hbel, hcase⟩
    rw [qwhole_skip, qwhole_res, hq] at hcase
    rcases hcase with ⟨h, _⟩ | ⟨c, b, off, hr, ha, he⟩
    · cases h
    · obtain rfl := Option.some.inj hr
      simp only [Option.some.injEq, Addr.mk.injEq] at ha
      obtain ⟨rfl, rfl, _⟩ := ha
      refine ⟨?_, hbel⟩
      rw [he, ← hE]
      have e1 : 2 + E - (1 + 1) = E := by omega
      have e2 : ((2 + E + 1 : Nat) : Int) = 3 + (E : Int) := by omega
      rw [e1, e2]
theorem zq_no (zs Z : List Int) (hq : qs false (qwhole zs Z) 2 = none) (G n cap : Nat) (w : World) (hn : n = (qwhole zs Z).length) (hm : n ≤ 8388608) (hcap : n ≤ cap)
    (h : Row w (some ⟨G, 0, none⟩) (qwhole zs Z).length (qwhole zs Z)) :
    Calls Try.prog 16 #[.slice (some ⟨G, 0, none⟩) n cap, .int .i64 0, .bool false] w fun e w' => e = .returned (.tuple #[.slice none 0 0, .bool false, .int .i64 1]) ∧ Below w.heap.size w w' := by
  obtain ⟨h1, h2, h3⟩ := h
  subst hn
  have hlen := qwhole_len zs Z
  rcases h3 with h3 | ⟨b, off, hb, hlt, hc⟩
  · omega
  · simp only [Option.some.injEq, Addr.mk.injEq] at hb
    obtain ⟨rfl, rfl, _⟩ := hb
    refine (zq_some false G 0 _ cap 0 (qwhole zs Z) w rfl hm hcap (Nat.zero_le _) hlt h2 hc).mono ?_
    rintro e w' ⟨hbel, hcase⟩
    rw [qwhole_skip, qwhole_res, hq] at hcase
    rcases hcase with ⟨_, he⟩ | ⟨c, b, off, hr, _⟩
    · exact ⟨he, hbel⟩
    · cases hr
end Go.Proofs.Qxb6601954a
