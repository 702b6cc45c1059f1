import Derived.Test.Qxb6601954aAuto
namespace Go.Proofs.Qxb6601954a.fnQuotedMatchesStringAutomaton
open Go.ChangeShapes Go.WideShapes Go.ChangeAt Go.RowKit

theorem zz15_any (a : Option Addr) (len cap : Nat) (p : Int) (es : Bool) (w : World) (hm : len ≤ maxLen) :
    Calls Try.prog 15 #[.slice a len cap, .int .i64 p, .bool es] w fun e w' => RetBool e ∧ w' = w := by
  unfold maxLen at hm
  go_enter Try.func15, Try.ntmps15
  go_wp2
  all_goals (go_ret; exact ⟨⟨_, rfl⟩, rfl⟩)

theorem auto_some (es : Bool) (b off len cap p : Nat) (zs : List Int) (w : World) (hl : zs.length = len) (hm : len ≤ 8388608) (hp : p ≤ len)
    (hz : ∀ j, 0 ≤ zs.getD j 0 ∧ zs.getD j 0 ≤ 255) (hc : ∀ j, j < len → w.cell? ⟨b, off + j, none⟩ = some (.int .u8 (zs.getD j 0))) :
    Calls Try.prog 17 #[.slice (some ⟨b, off, none⟩) len cap, .int .i64 p, .bool es] w fun e w' => AEnd es zs (skip zs p) e ∧ w' = w := by
  have hql : skip zs p ≤ len := by rw [← hl]; exact skip_le zs p (by omega)
  by_cases ho : skip zs p < len ∧ zs.getD (skip zs p) 0 = 34
  · exact auto_open es b off len cap p _ zs w hl hm hz hc (hid rfl) ho.1 ho.2
  · exact auto_none es b off len cap p _ zs w hl hm hc (hid rfl) hql (fun h1 h2 => ho ⟨h1, h2⟩)

theorem qres_bound (es : Bool) (zs : List Int) (q c : Nat) (h : qres es zs q = some c) : q + 1 ≤ c ∧ c < zs.length := by
  unfold qres at h
  split at h
  · exact qs_bound es zs _ _ _ h
  · cases h

set_option maxHeartbeats 1600000 in
theorem law (a : Option Addr) (len cap : Nat) (zs : List Int) (p : Int) (es : Bool) (w : World) (h : Row w a len zs) (hn : a = none → len = 0 ∧ cap = 0) (hm : len ≤ maxLen) :
    Calls Try.prog 5 #[.slice a len cap, .int .i64 p, .bool es] w fun e w' => e = .returned (.bool true) ∧ Below w.heap.size w w' := by
  have hm' := hm
  unfold maxLen at hm'
  have hz := h.2.1
  have HL := hid h.1
  go_enter Try.func5, Try.ntmps5
  go_wp2_with fail
  refine (zz15_any a len cap p es _ hm).mono ?_
  rintro e w' ⟨⟨r, rfl⟩, hw⟩
  obtain rfl := hw.symm
  cases r
  · go_wp2
    go_ret
    exact ⟨rfl, Below.refl _ _⟩
  by_cases t1 : 1048576 < len
  · go_wp2
    go_ret
    exact ⟨rfl, Below.refl _ _⟩
  by_cases t2 : p < 0
  · go_wp2
    go_ret
    exact ⟨rfl, Below.refl _ _⟩
  have d2 : decide (p < 0) = false := decide_eq_false t2
  by_cases t3 : (len : Int) < p
  · have d3 : decide ((len : Int) < p) = true := decide_eq_true t3
    go_wp2
    go_ret
    exact ⟨rfl, Below.refl _ _⟩
  have d3 : decide ((len : Int) < p) = false := decide_eq_false t3
  obtain ⟨P, rfl⟩ : ∃ P : Nat, p = P := ⟨p.toNat, by omega⟩
  go_wp2_with fail
  refine (clone_any a len cap zs _ h hn (by omega)).mono ?_
  rintro e w1 ⟨hcl, hb1⟩
  have hlen : zs.length ≤ 1048576 := by rw [HL.out]; omega
  have hP : P ≤ zs.length := by rw [HL.out]; omega
  have q22 : ∀ (w : World) (a : Option Addr) (n c n' c' : Nat), (binOp .eql 22 (.slice a n c) (.slice none n' c')).run Try.prog w = .ok (.bool a.isNone) w := fun w a n c n' c' => Lib.run_eql_slice_nil w _ _ a n c n' c' Try.underlying22
  have q22n : ∀ (w : World) (a : Option Addr) (n c n' c' : Nat), (binOp .neq 22 (.slice a n c) (.slice none n' c')).run Try.prog w = .ok (.bool (!a.isNone)) w := fun w a n c n' c' => run_neq_slice_nil_any w _ _ a n c n' c' Try.underlying22
  rcases hcl with ⟨he, a1, c1, rfl, _⟩ | ⟨hpos, rfl, hg, hc⟩
  · subst he
    obtain rfl : P = 0 := by simpa using hP
    go_wp2_with fail
    refine (zq_zero es c1 a1 _).mono ?_
    rintro e w2 ⟨hb2, hcase⟩
    have hB2 : Below w.heap.size w w2 := hb1.trans (hb2.mono hb1.size)
    rcases hcase with ⟨_, rfl⟩ | ⟨c, b, off, hr, _⟩
    · go_wp2_with fail
      refine (auto_zero es a1 c1 _).mono ?_
      rintro e w3 ⟨hae, hw⟩
      obtain rfl := hw.symm
      rcases hae with ⟨_, rfl⟩ | ⟨c, hr, _⟩
      · go_wp2
        go_ret
        exact ⟨rfl, hB2⟩
      · cases hr
    · cases hr
  · have hc0 : ∀ j, j < zs.length → w1.cell? ⟨w.heap.size, 0 + j, none⟩ = some (.int .u8 (zs.getD j 0)) := fun j hj => by rw [Nat.zero_add]; exact hc j hj
    clear hc
    go_wp2_with fail
    refine (zq_some es w.heap.size 0 zs.length zs.length P zs _ rfl (by omega) (Nat.le_refl _) hP hg hz hc0).mono ?_
    rintro e w2 ⟨hb2, hcase⟩
    have hB2 : Below w.heap.size w w2 := hb1.trans (hb2.mono hb1.size)
    have hc2 : ∀ j, j < zs.length → w2.cell? ⟨w.heap.size, 0 + j, none⟩ = some (.int .u8 (zs.getD j 0)) := fun j hj => (hb2.cell hg).trans (hc0 j hj)
    have HAU := hid (auto_some es w.heap.size 0 zs.length zs.length P zs w2 rfl (by omega) hP hz hc2)
    have HC2 := hid hc2
    clear hc0 hc2 hb2 hb1 h hz
    have hql : skip zs P ≤ zs.length := skip_le zs P hP
    generalize skip zs P = q at *
    rcases hcase with ⟨hr, rfl⟩ | ⟨c, b, off, hr, hba, rfl⟩
    · go_wp2_with fail
      refine HAU.out.mono ?_
      rintro e w3 ⟨hae, hw⟩
      obtain rfl := hw.symm
      rcases hae with ⟨_, rfl⟩ | ⟨c, hr2, _⟩
      · clear HAU hr
        go_wp2
        go_ret
        exact ⟨rfl, hB2⟩
      · rw [hr] at hr2; cases hr2
    · obtain ⟨hb1, hb2⟩ := qres_bound es zs q c hr
      simp only [Option.some.injEq, Addr.mk.injEq] at hba
      obtain ⟨rfl, rfl, _⟩ := hba
      have HR := hid hr
      clear hr
      have hci : (c : Int) < (zs.length : Int) := by omega
      have hqc : (q : Int) + 1 ≤ (c : Int) := by omega
      go_wp2_with fail
      refine HAU.out.mono ?_
      rintro e w3 ⟨hae, hw⟩
      obtain rfl := hw.symm
      rcases hae with ⟨hr2, _⟩ | ⟨c', hr2, rfl⟩
      · rw [HR.out] at hr2; cases hr2
      · obtain rfl : c = c' := by rw [HR.out] at hr2; exact Option.some.inj hr2
        clear HAU hr2
        go_wp2_with fail
        refine (same_some w.heap.size (q + 1) _ w.heap.size (q + 1) _ (c - (q + 1)) (fun j => zs.getD (q + 1 + j) 0) _ (by omega) ?_ ?_).mono ?_
        · intro j hj
          have := HC2.out (q + 1 + j) (by omega)
          rwa [Nat.zero_add] at this
        · intro j hj
          have := HC2.out (q + 1 + j) (by omega)
          rwa [Nat.zero_add] at this
        rintro e w3 ⟨rfl, hb3⟩
        go_wp2
        go_ret
        exact ⟨rfl, hB2.trans (hb3.mono hB2.size)⟩
end Go.Proofs.Qxb6601954a.fnQuotedMatchesStringAutomaton
