import Derived.Test.Qxb6601954aZZQuoted
import Derived.Test.Qxb6601954aPlainE
import Derived.Deep.RegionLaw
namespace Go.Proofs.Qxb6601954a
open Go.ChangeShapes Go.WideShapes Go.ChangeAt Go.RowKit

/-- append within the capacity of an owned row, as one step of a region that draws its order -/
theorem step_append_fits {P : Program} {ops : Array Oper} {o : Oper} {a : Act} {w : World} {K : Act → World → Prop} {Q : Exit → Act → World → Prop} {E : Prop}
    (hg : o.guard = none) (s x : Operand) (t : TypeId) (hop : o.op = Op.call { callee := Callee.builtin Builtin.append, args := #[s, x], argTypes := #[t, t] })
    (base : Nat) (e : TypeId) (i : TypeInfo) (size : Nat) (h1 : P.underlying t = some (.slice e)) (h2 : P.info? e = some i) (h4 : i.size = size)
    (g k cap : Nat) (xs : List Value) (hs : a.eval s = .slice (some ⟨g, 0, none⟩) k cap) (hown : w.ownsRow base e size (.slice (some ⟨g, 0, none⟩) k cap) k xs) (ad : Addr) (m c : Nat) (news : List Value) (hx : a.eval x = .slice (some ad) m c) (hn : news.length = m * size)
    (hc : ∀ j u, news[j]? = some u → w.cell? (ad.add j) = some u) (h1c : ∀ u ∈ news, u.oneCell' = true) (b1 : k + m ≤ cap)
    (hK : ∀ w', w'.ownsRow base e size (.slice (some ⟨g, 0, none⟩) (k + m) cap) (k + m) (xs ++ news) → w.grownBy w' (some g) → K (a.put o.dst (.slice (some ⟨g, 0, none⟩) (k + m) cap)) w') :
    if Region.wanted o (yielded ops a.tmps) = true then Oper.wp P o a w K Q else E := by
  have hw : Region.wanted o (yielded ops a.tmps) = true := by simp [Region.wanted, hg]
  rw [if_pos hw]
  obtain ⟨w', hrun, r1, r2⟩ := run_append_fits (P := P) w base t o.type e i size h1 h2 h4 g k cap xs hown ad m c news hn hc h1c b1
  unfold Oper.wp
  simp [execOp, hop, resolve, invoke, builtin, hs, hx, hrun, Result.andThen]
  exact hK w' r1 r2

/-- Go's table of hex digits -/
def hexs : ByteArray := ⟨#[48, 49, 50, 51, 52, 53, 54, 55, 56, 57, 97, 98, 99, 100, 101, 102]⟩
theorem hexs_size : hexs.size = 16 := rfl
theorem hex_all : ∀ n : Fin 16, ((hexs[n.val]'(by rw [hexs_size]; exact n.isLt)).toNat : Int) = hx ((n.val : Nat) : Int) := by decide
theorem hex_at (x : Int) (h0 : 0 ≤ x) (h1 : x < 16) (pf : x.toNat < hexs.size) : ((hexs[x.toNat]'pf).toNat : Int) = hx x := by
  have := hex_all ⟨x.toNat, by omega⟩
  rw [show ((x.toNat : Nat) : Int) = x from by omega] at this
  exact this
theorem hex_own {w2 : World} {B g n cap : Nat} {X : List Value} {x y : Int} (hx0 : 0 ≤ x) (hx1 : x < 16) (hy0 : 0 ≤ y) (hy1 : y < 16) {pf1 : x.toNat < hexs.size} {pf2 : y.toNat < hexs.size}
    (h : w2.ownsRow B 5 1 (.slice (some ⟨g, 0, none⟩) n cap) n (X ++ [.int .u8 92, .int .u8 117, .int .u8 48, .int .u8 48, .int .u8 ((hexs[x.toNat]'pf1).toNat : Int), .int .u8 ((hexs[y.toNat]'pf2).toNat : Int)])) :
    w2.ownsRow B 5 1 (.slice (some ⟨g, 0, none⟩) n cap) n (X ++ ([92, 117, 48, 48, hx x, hx y] : List Int).map (Value.int .u8)) := by
  rw [hex_at x hx0 hx1, hex_at y hy0 hy1] at h
  exact h
theorem grown_undrew {x y : World} {r : Option Nat} (h : x.drew.grownBy y r) : x.grownBy y r := ⟨h.os, h.tape, h.output, h.size, h.block⟩
theorem and15_all : ∀ n : Fin 32, bits BinOp.and IntKind.u8 ((n.val : Nat) : Int) 15 = ((n.val : Nat) : Int) % 16 := by decide
theorem and15 (c : Int) (h0 : 0 ≤ c) (h1 : c < 32) : bits BinOp.and IntKind.u8 c 15 = c % 16 := by
  have := and15_all ⟨c.toNat, by omega⟩
  rw [show ((c.toNat : Nat) : Int) = c from by omega] at this
  exact this

set_option maxHeartbeats 3200000 in
theorem enc_some (b off len cap : Nat) (zs : List Int) (w : World) (hl : zs.length = len) (hm : len ≤ 1048576) (hb : b < w.heap.size)
    (hz : ∀ j, 0 ≤ zs.getD j 0 ∧ zs.getD j 0 ≤ 255) (hc : ∀ j, j < len → w.cell? ⟨b, off + j, none⟩ = some (.int .u8 (zs.getD j 0))) :
    Calls Try.prog 23 #[.slice (some ⟨b, off, none⟩) len cap] w fun e w' => e = .returned (.slice (some ⟨w.heap.size, 0, none⟩) (enc zs).length (6 * len)) ∧
      w'.ownsRow w.heap.size 5 1 (.slice (some ⟨w.heap.size, 0, none⟩) (enc zs).length (6 * len)) (enc zs).length ((enc zs).map (Value.int .u8)) ∧ Below w.heap.size w w' := by
  obtain ⟨i0, hi, hz0, hz1, hz2⟩ := info_parts Try.info5
  go_enter Try.func23, Try.ntmps23
  go_wp2_with (at_make; refine wpList_make_own _ rfl _ _ 22 rfl w.heap.size 5 i0 (.int .u8 0) 1 Try.underlying22 hi hz0 hz1 _ _ _ (6 * len) rfl rfl (by omega) (by rw [hz2]; omega) (by unfold maxLen; omega) (Nat.le_refl _) ?_; intro w1 hown1 hgrow1)
  have hb1 : Below w.heap.size w w1 := (Below.refl _ _).grown hgrow1 (Nat.le_refl _) (by simp)
  have HO := hid hown1
  clear hown1 hgrow1
  go_loopw [3, 4] (fun o i wr => ∃ k : Nat, k ≤ len ∧ i = .int .i64 k ∧ o = .slice (some ⟨w.heap.size, 0, none⟩) (enc (zs.take k)).length (6 * len) ∧ wr.ownsRow w.heap.size 5 1 (.slice (some ⟨w.heap.size, 0, none⟩) (enc (zs.take k)).length (6 * len)) (enc (zs.take k)).length ((enc (zs.take k)).map (Value.int .u8)) ∧ Below w.heap.size w wr) (fun _ i _ => len - (intOf i).toNat)
  case atStart => exact ⟨0, by omega, rfl, rfl, HO.out, hb1⟩
  case round =>
    obtain ⟨k, hk, rfl, rfl, hown, hbx⟩ := hrel
    clear HO hb1
    by_cases hlt : k < len
    · have hcx : wr.cell? ⟨b, off + k, none⟩ = some (.int .u8 (zs.getD k 0)) := (hbx.cell (by exact hb)).trans (hc k hlt)
      have hli : (k : Int) < (len : Int) := by omega
      have hzk := hz k
      have HEN : Hid (enc (zs.take (k + 1)) = enc (zs.take k) ++ enc1 (zs.getD k 0)) := by
        show enc (zs.take (k + 1)) = _
        rw [take_snoc zs k (by omega), enc_app, enc_one]
      have hel : (enc (zs.take k)).length ≤ 6 * k := by
        have := enc_len (zs.take k)
        rw [List.length_take] at this
        omega
      have hbs := hbx.size
      clear hc hz
      obtain ⟨c, hcc⟩ : ∃ c, c = zs.getD k 0 := ⟨_, rfl⟩
      rw [← hcc] at hcx hzk HEN
      clear hcc
      generalize enc (zs.take k) = L at *
      have done : ∀ (l : List Int) (w2 : World) (o : Obj), enc1 c = l → w2.ownsRow w.heap.size 5 1 (.slice (some ⟨w.heap.size, 0, none⟩) (L.length + l.length) (6 * len)) (L.length + l.length) (L.map (Value.int .u8) ++ l.map (Value.int .u8)) → (wr.alloc o).grownBy w2 (some w.heap.size) →
          w2.ownsRow w.heap.size 5 1 (.slice (some ⟨w.heap.size, 0, none⟩) (enc (zs.take (k + 1))).length (6 * len)) (enc (zs.take (k + 1))).length ((enc (zs.take (k + 1))).map (Value.int .u8)) ∧ Below w.heap.size w w2 := by
        intro l w2 o hl1 ho hg
        refine ⟨?_, (hbx.alloc hbs _).grown hg (by simp; omega) (fun q hq => by simp at hq; omega)⟩
        rw [HEN.out, hl1, List.length_append, List.map_append]
        exact ho
      have HDN := hid done
      clear done
      have len1 : Hid (∀ l, enc1 c = l → (enc (zs.take (k + 1))).length = L.length + l.length) := by
        intro l hl1
        rw [HEN.out, hl1, List.length_append]
      by_cases h34 : c = 34
      · subst h34
        go_wp2_with (at_builtin; refine wpList_append_fits _ rfl (.tmp 22) (.tmp 23) 22 rfl w.heap.size 5 i0 1 Try.underlying22 hi hz1 w.heap.size L.length (6 * len) _ rfl (hown.alloc _) ⟨wr.heap.size, 0, none⟩ 2 2 [.int .u8 92, .int .u8 34] rfl rfl (cells_new _ _ _) (ints_oneCell .u8 [92, 34]) (by omega) ?_; intro w2 hown2 hgrow2)
        go_roundw
        case rel =>
          have R := HDN.out [92, 34] w2 _ rfl hown2 hgrow2
          exact ⟨k + 1, by omega, by go_num, by rw [len1.out [92, 34] rfl]; rfl, R.1, R.2⟩
        case measure => simp [intOf]; omega
      by_cases h92 : c = 92
      · subst h92
        go_wp2_with (at_builtin; refine wpList_append_fits _ rfl (.tmp 27) (.tmp 28) 22 rfl w.heap.size 5 i0 1 Try.underlying22 hi hz1 w.heap.size L.length (6 * len) _ rfl (hown.alloc _) ⟨wr.heap.size, 0, none⟩ 2 2 [.int .u8 92, .int .u8 92] rfl rfl (cells_new _ _ _) (ints_oneCell .u8 [92, 92]) (by omega) ?_; intro w2 hown2 hgrow2)
        go_roundw
        case rel =>
          have R := HDN.out [92, 92] w2 _ rfl hown2 hgrow2
          exact ⟨k + 1, by omega, by go_num, by rw [len1.out [92, 92] rfl]; rfl, R.1, R.2⟩
        case measure => simp [intOf]; omega
      by_cases h10 : c = 10
      · subst h10
        go_wp2_with (at_builtin; refine wpList_append_fits _ rfl (.tmp 32) (.tmp 33) 22 rfl w.heap.size 5 i0 1 Try.underlying22 hi hz1 w.heap.size L.length (6 * len) _ rfl (hown.alloc _) ⟨wr.heap.size, 0, none⟩ 2 2 [.int .u8 92, .int .u8 110] rfl rfl (cells_new _ _ _) (ints_oneCell .u8 [92, 110]) (by omega) ?_; intro w2 hown2 hgrow2)
        go_roundw
        case rel =>
          have R := HDN.out [92, 110] w2 _ rfl hown2 hgrow2
          exact ⟨k + 1, by omega, by go_num, by rw [len1.out [92, 110] rfl]; rfl, R.1, R.2⟩
        case measure => simp [intOf]; omega
      by_cases h9 : c = 9
      · subst h9
        go_wp2_with (at_builtin; refine wpList_append_fits _ rfl (.tmp 37) (.tmp 38) 22 rfl w.heap.size 5 i0 1 Try.underlying22 hi hz1 w.heap.size L.length (6 * len) _ rfl (hown.alloc _) ⟨wr.heap.size, 0, none⟩ 2 2 [.int .u8 92, .int .u8 116] rfl rfl (cells_new _ _ _) (ints_oneCell .u8 [92, 116]) (by omega) ?_; intro w2 hown2 hgrow2)
        go_roundw
        case rel =>
          have R := HDN.out [92, 116] w2 _ rfl hown2 hgrow2
          exact ⟨k + 1, by omega, by go_num, by rw [len1.out [92, 116] rfl]; rfl, R.1, R.2⟩
        case measure => simp [intOf]; omega
      have e34 := beq_eq_false_iff_ne.2 h34
      have e92 := beq_eq_false_iff_ne.2 h92
      have e10 := beq_eq_false_iff_ne.2 h10
      have e9 := beq_eq_false_iff_ne.2 h9
      by_cases h32 : c < 32
      · have HE1 : Hid (enc1 c = [92, 117, 48, 48, hx (c / 16), hx (c % 16)]) := by
          show enc1 c = _
          rw [enc1, if_neg h34, if_neg h92, if_neg h10, if_neg h9, if_pos h32]
        have hq1 : 0 ≤ c / 16 := by omega
        have hq2 : c / 16 < 16 := by omega
        have hbt : bits BinOp.and IntKind.u8 c 15 = c % 16 := and15 c hzk.1 h32
        have hr1 : 0 ≤ c % 16 := by omega
        have hr2 : c % 16 < 16 := by omega
        clear h34 h92 h10 h9
        go_wp2
        go_region_law (refine step_append_fits (by rfl) (.tmp 42) (.tmp 49) 22 (by rfl) w.heap.size 5 i0 1 Try.underlying22 hi hz1 w.heap.size L.length (6 * len) _ (by rfl) (by exact (hown.alloc _).drew) ⟨wr.heap.size, 0, none⟩ 6 6 [.int .u8 92, .int .u8 117, .int .u8 48, .int .u8 48, .int .u8 _, .int .u8 _] (by rfl) (by rfl) (by exact cells_new _ _ _) (ints_oneCell .u8 [92, 117, 48, 48, _, _]) (by omega) ?_; intro w2 hown2 hgrow2)
        all_goals
          have hown3 := hex_own hq1 hq2 hr1 hr2 hown2
          have hgr3 := grown_undrew hgrow2
          clear hown2 hgrow2
          go_wp2
          go_roundw
          case rel =>
            have R := HDN.out [92, 117, 48, 48, hx (c / 16), hx (c % 16)] w2 _ HE1.out hown3 hgr3
            exact ⟨k + 1, by omega, by go_num, by rw [len1.out _ HE1.out]; rfl, R.1, R.2⟩
          case measure => simp [intOf]; omega
      · have HE1 : Hid (enc1 c = [c]) := by
          show enc1 c = _
          rw [enc1, if_neg h34, if_neg h92, if_neg h10, if_neg h9, if_neg h32]
        clear h34 h92 h10 h9
        go_wp2_with (at_builtin; refine wpList_append_fits _ rfl (.tmp 51) (.tmp 53) 22 rfl w.heap.size 5 i0 1 Try.underlying22 hi hz1 w.heap.size L.length (6 * len) _ rfl (hown.alloc _) ⟨wr.heap.size, 0, none⟩ 1 1 [.int .u8 c] rfl rfl (cells_new _ _ _) (ints_oneCell .u8 [c]) (by omega) ?_; intro w2 hown2 hgrow2)
        go_roundw
        case rel =>
          have R := HDN.out [c] w2 _ HE1.out hown2 hgrow2
          exact ⟨k + 1, by omega, by go_num, by rw [len1.out [c] HE1.out]; rfl, R.1, R.2⟩
        case measure => simp [intOf]; omega
    · have hkl : k = len := by omega
      subst hkl
      clear hc hz
      rw [List.take_of_length_le (by omega)] at *
      go_wp2
      go_ret
      exact ⟨rfl, hown, hbx⟩
end Go.Proofs.Qxb6601954a
