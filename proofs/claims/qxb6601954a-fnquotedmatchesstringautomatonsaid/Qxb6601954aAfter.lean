import Derived.Test.Qxb6601954aBack
import Derived.Test.Qxb6601954aPlainM
namespace Go.Proofs.Qxb6601954a
open Go.ChangeShapes Go.WideShapes Go.ChangeAt Go.RowKit

theorem space_any (c : Int) (w : World) : Calls Try.prog 30 #[.int .u8 c] w fun e w' => e = .returned (.bool (isSp c)) ∧ w' = w := by
  by_cases h1 : c = 32
  · subst h1
    go_enter Try.func30, Try.ntmps30
    go_wp2
    go_ret
    exact ⟨rfl, rfl⟩
  have e1 := beq_eq_false_iff_ne.2 h1
  by_cases h2 : c = 9
  · subst h2
    clear e1 h1
    go_enter Try.func30, Try.ntmps30
    go_wp2
    go_ret
    exact ⟨rfl, rfl⟩
  have e2 := beq_eq_false_iff_ne.2 h2
  by_cases h3 : c = 10
  · subst h3
    clear e1 h1 e2 h2
    go_enter Try.func30, Try.ntmps30
    go_wp2
    go_ret
    exact ⟨rfl, rfl⟩
  have e3 := beq_eq_false_iff_ne.2 h3
  by_cases h4 : c = 13
  · subst h4
    clear e1 h1 e2 h2 e3 h3
    go_enter Try.func30, Try.ntmps30
    go_wp2
    go_ret
    exact ⟨rfl, rfl⟩
  have e4 := beq_eq_false_iff_ne.2 h4
  have HS : Hid (isSp c = false) := by show isSp c = false; rw [isSp, e1, e2, e3, e4]; rfl
  clear h1 h2 h3 h4
  go_enter Try.func30, Try.ntmps30
  go_wp2
  go_ret
  exact ⟨by rw [HS.out]; rfl, rfl⟩

set_option maxHeartbeats 800000 in
theorem after_some (b off len cap p : Nat) (zs : List Int) (w : World) (hl : zs.length = len) (hm : len ≤ 8388608)
    (hc : ∀ j, j < len → w.cell? ⟨b, off + j, none⟩ = some (.int .u8 (zs.getD j 0))) :
    Calls Try.prog 21 #[.slice (some ⟨b, off, none⟩) len cap, .int .i64 p] w fun e w' => e = .returned (.int .i64 (skip zs p)) ∧ w' = w := by
  go_enter Try.func21, Try.ntmps21
  go_wp2
  go_loop [5] (fun i => ∃ k : Nat, p ≤ k ∧ (k ≤ len ∨ k = p) ∧ i = .int .i64 k ∧ skip zs k = skip zs p) (fun i => len - (intOf i).toNat)
  case atStart => exact ⟨p, Nat.le_refl _, .inr rfl, rfl, rfl⟩
  case round =>
    obtain ⟨k, hpk, hkl, rfl, hsk⟩ := hrel
    have HSK := hid hsk
    clear hsk
    by_cases hlt : k < len
    · have hcx := hc k hlt
      have hli : (k : Int) < (len : Int) := by omega
      clear hc
      by_cases hsp : isSp (zs.getD k 0) = true
      · have HN : Hid (skip zs (k + 1) = skip zs p) := by
          show skip zs (k + 1) = skip zs p
          rw [← HSK.out, skip_yes zs k (by omega) hsp]
        generalize zs.getD k 0 = c at *
        go_wp2_with (go_at_call 30; refine (space_any _ _).mono ?_; rintro e w' ⟨rfl, rfl⟩; rw [hsp])
        go_round
        case rel => exact ⟨k + 1, by omega, .inl (by omega), by go_num, HN.out⟩
        case measure => simp [intOf]; omega
      · have hsp' : isSp (zs.getD k 0) = false := by simpa using hsp
        have HN : Hid (skip zs p = k) := by
          show skip zs p = k
          rw [← HSK.out, skip_no zs k (by omega) hsp']
        clear hsp
        generalize zs.getD k 0 = c at *
        go_wp2_with (go_at_call 30; refine (space_any _ _).mono ?_; rintro e w' ⟨rfl, rfl⟩; rw [hsp'])
        go_ret
        exact ⟨by rw [HN.out]; rfl, rfl⟩
    · have hli : decide ((k : Int) < (len : Int)) = false := decide_eq_false (by omega)
      have HN : Hid (skip zs p = k) := by
        show skip zs p = k
        rw [← HSK.out, skip_end zs k (by omega)]
      clear hc
      go_wp2
      go_ret
      exact ⟨by rw [HN.out]; rfl, rfl⟩

theorem after_zero (a : Option Addr) (cap p : Nat) (w : World) : Calls Try.prog 21 #[.slice a 0 cap, .int .i64 p] w fun e w' => e = .returned (.int .i64 p) ∧ w' = w := by
  have hli : decide ((p : Int) < (0 : Int)) = false := decide_eq_false (by omega)
  go_enter Try.func21, Try.ntmps21
  go_wp2
  refine wp_loop_rounds 1 ?_
  rw [rounds_succ]
  go_wp2
  go_ret
  exact ⟨rfl, rfl⟩

/-- Go's text of the greatest int64 -/
def limS : ByteArray := ⟨#[57, 50, 50, 51, 51, 55, 50, 48, 51, 54, 56, 53, 52, 55, 55, 53, 56, 48, 55]⟩
theorem limS_size : limS.size = 19 := rfl
theorem lim_all : ∀ n : Fin 19, ((limS[n.val]'(by rw [limS_size]; exact n.isLt)).toNat : Int) = (ld false).getD n.val 0 := by decide
theorem lim_at (k : Nat) (h : k < 19) (pf : k < limS.size) : ((limS[k]'pf).toNat : Int) = (ld false).getD k 0 := lim_all ⟨k, h⟩
theorem ld_other (neg : Bool) (k : Nat) (h : k < 18) : (ld neg).getD k 0 = (ld false).getD k 0 := by
  have all : ∀ n : Fin 18, (ld neg).getD n.val 0 = (ld false).getD n.val 0 := by cases neg <;> decide
  exact all ⟨k, h⟩

set_option maxHeartbeats 1600000 in
theorem beyond_any (b off cap s : Nat) (zs : List Int) (neg : Bool) (w : World) (hd : ∀ j, j < 19 → 48 ≤ zs.getD (s + j) 0 ∧ zs.getD (s + j) 0 ≤ 57)
    (hc : ∀ j, j < 19 → w.cell? ⟨b, off + j, none⟩ = some (.int .u8 (zs.getD (s + j) 0))) :
    Calls Try.prog 26 #[.slice (some ⟨b, off, none⟩) 19 cap, .bool neg] w fun e w' => e = .returned (.bool (decide (lim neg < vt zs s 19))) ∧ w' = w := by
  go_enter Try.func26, Try.ntmps26
  go_wp2
  go_loop [5] (fun i => ∃ k : Nat, k ≤ 19 ∧ i = .int .i64 k ∧ ∀ j, j < k → zs.getD (s + j) 0 = (ld neg).getD (0 + j) 0) (fun i => 19 - (intOf i).toNat)
  case atStart => exact ⟨0, by omega, rfl, by omega⟩
  case round =>
    obtain ⟨k, hk, rfl, heq⟩ := hrel
    have HEQ := hid heq
    clear heq
    by_cases hlt : k < 19
    · have hcx := hc k hlt
      have hli : (k : Int) < 19 := by omega
      have hdk := hd k hlt
      clear hc
      obtain ⟨l, hll⟩ : ∃ l, l = (ld neg).getD k 0 := ⟨_, rfl⟩
      have hlb := ld_dig neg k hlt
      rw [← hll] at hlb
      obtain ⟨c, hcc⟩ : ∃ c, c = zs.getD (s + k) 0 := ⟨_, rfl⟩
      rw [← hcc] at hcx hdk
      have HGT : Hid (l < c → lim neg < vt zs s 19) := by
        intro h
        rw [← ld_vt neg]
        exact vt_lex zs (ld neg) s 0 19 k hlt hd (fun j hj => by rw [Nat.zero_add]; exact ld_dig neg j hj) HEQ.out (by rw [Nat.zero_add, ← hll, ← hcc]; exact h)
      have HLT : Hid (c < l → ¬ lim neg < vt zs s 19) := by
        intro h
        have := vt_lex (ld neg) zs 0 s 19 k hlt (fun j hj => by rw [Nat.zero_add]; exact ld_dig neg j hj) hd (fun j hj => (HEQ.out j hj).symm) (by rw [Nat.zero_add, ← hll, ← hcc]; exact h)
        rw [ld_vt neg] at this
        omega
      have HE : Hid (c = l → ∀ j, j < k + 1 → zs.getD (s + j) 0 = (ld neg).getD (0 + j) 0) := by
        intro h j hj
        by_cases e : j = k
        · subst e; rw [Nat.zero_add, ← hll, ← hcc]; exact h
        · exact HEQ.out j (by omega)
      clear hd
      by_cases hA : neg = true ∧ k = 18
      · obtain ⟨rfl, rfl⟩ := hA
        have hl56 : l = 56 := by rw [hll]; rfl
        subst hl56
        clear hll hcc
        rcases Int.lt_trichotomy c 56 with h | h | h
        · have e1 : (c != 56) = true := by rw [bne_iff_ne]; omega
          have HX : Hid (decide (lim true < vt zs s 19) = decide (56 < c)) := by
            show _ = _
            rw [decide_eq_false (HLT.out h), decide_eq_false (by omega)]
          go_wp2
          go_ret
          exact ⟨by rw [HX.out]; rfl, rfl⟩
        · subst h
          go_wp2
          go_round
          case rel => exact ⟨18 + 1, by omega, by go_num, HE.out rfl⟩
          case measure => simp [intOf]
        · have e1 : (c != 56) = true := by rw [bne_iff_ne]; omega
          have HX : Hid (decide (lim true < vt zs s 19) = true) := by
            show _ = _
            rw [decide_eq_true (HGT.out h)]
          go_wp2
          go_ret
          exact ⟨by rw [HX.out]; rfl, rfl⟩
      · have hlk : (((⟨#[57, 50, 50, 51, 51, 55, 50, 48, 51, 54, 56, 53, 52, 55, 55, 53, 56, 48, 55]⟩ : ByteArray)[k]'(by show k < limS.size; rw [limS_size]; exact hlt)).toNat : Int) = l := by
          rw [hll]
          refine (lim_at k hlt _).trans ?_
          cases neg with
          | false => rfl
          | true => exact (ld_other true k (by have : k ≠ 18 := fun e => hA ⟨rfl, e⟩; omega)).symm
        have hB : neg = false ∨ (neg = true ∧ ((k : Int) == 18) = false) := by
          cases neg with
          | false => exact .inl rfl
          | true => exact .inr ⟨rfl, beq_eq_false_iff_ne.2 (by have : k ≠ 18 := fun e => hA ⟨rfl, e⟩; omega)⟩
        have HXF : Hid (c < l → decide (lim neg < vt zs s 19) = false) := fun h => decide_eq_false (HLT.out h)
        have HXT : Hid (l < c → decide (lim neg < vt zs s 19) = true) := fun h => decide_eq_true (HGT.out h)
        clear hll hcc hA HLT HGT
        rcases hB with rfl | ⟨rfl, hB⟩
        all_goals
          rcases Int.lt_trichotomy c l with h | h | h
          · have e1 : (c != l) = true := by rw [bne_iff_ne]; omega
            have d1 : decide (l < c) = false := decide_eq_false (by omega)
            have HX := hid (HXF.out h)
            go_wp2
            go_ret
            exact ⟨by rw [HX.out]; rfl, rfl⟩
          · have e1 : (c != l) = false := by rw [bne_eq_false_iff_eq]; exact h
            have HEE := hid (HE.out h)
            clear h
            go_wp2
            go_round
            case rel => exact ⟨k + 1, by omega, by go_num, HEE.out⟩
            case measure => simp [intOf]; omega
          · have e1 : (c != l) = true := by rw [bne_iff_ne]; omega
            have HX := hid (HXT.out h)
            go_wp2
            go_ret
            exact ⟨by rw [HX.out]; rfl, rfl⟩
    · have hk19 : k = 19 := by omega
      subst hk19
      have HX : Hid (decide (lim neg < vt zs s 19) = false) := by
        show _ = _
        rw [vt_same zs (ld neg) s 0 19 HEQ.out, ld_vt neg]
        exact decide_eq_false (by omega)
      clear hc hd
      go_wp2
      go_ret
      exact ⟨by rw [HX.out]; rfl, rfl⟩
end Go.Proofs.Qxb6601954a
