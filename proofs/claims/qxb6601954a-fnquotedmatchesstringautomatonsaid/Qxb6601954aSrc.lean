import Derived.Test.Qxb6601954aBack
namespace Go.Proofs.Qxb6601954a
open Go.ChangeShapes Go.WideShapes Go.ChangeAt Go.RowKit

theorem add_block (a : Addr) (j : Nat) : (a.add j).block = a.block := by
  unfold Addr.add
  split <;> rfl
/-- what a slice hands to an append, in blocks below B -/
def Src (B : Nat) (w : World) (a : Option Addr) (zs : List Int) : Prop :=
  ∀ ad, a = some ad → ∀ j u, (zs.map (Value.int .u8))[j]? = some u → ad.block < B ∧ w.cell? (ad.add j) = some u
theorem Src.below {B : Nat} {w w' : World} {a : Option Addr} {zs : List Int} (h : Src B w a zs) (hb : Below B w w') : Src B w' a zs := fun ad ha j u hu =>
  ⟨(h ad ha j u hu).1, (hb.cell (p := ad.add j) (by rw [add_block]; exact (h ad ha j u hu).1)).trans (h ad ha j u hu).2⟩
theorem Src.mono {B C : Nat} {w : World} {a : Option Addr} {zs : List Int} (h : Src B w a zs) (hB : B ≤ C) : Src C w a zs := fun ad ha j u hu =>
  ⟨Nat.lt_of_lt_of_le (h ad ha j u hu).1 hB, (h ad ha j u hu).2⟩
theorem src_nil (B : Nat) (w : World) (a : Option Addr) : Src B w a [] := fun ad _ j u hu => by simp at hu
theorem src_row {B g : Nat} {w : World} {zs : List Int} (hg : g < B) (hc : ∀ j, j < zs.length → w.cell? ⟨g, j, none⟩ = some (.int .u8 (zs.getD j 0))) : Src B w (some ⟨g, 0, none⟩) zs := by
  intro ad ha j u hu
  obtain rfl := Option.some.inj ha
  refine ⟨hg, ?_⟩
  rw [List.getElem?_map, Option.map_eq_some_iff] at hu
  obtain ⟨z, hz, rfl⟩ := hu
  have hj := (List.getElem?_eq_some_iff.1 hz).1
  rw [add_plain, Nat.zero_add, hc j hj, List.getD, hz]
  rfl
theorem src_clone {w w' : World} {zs : List Int} {e : Ending} (h : IsClone w w' zs e) : ∃ a c, e = .returned (.slice a zs.length c) ∧ (a = none → zs.length = 0 ∧ c = 0) ∧ Src w'.heap.size w' a zs := by
  rcases h with ⟨rfl, a, c, rfl, h0⟩ | ⟨_, rfl, hs, hc⟩
  · exact ⟨a, c, rfl, fun h => ⟨rfl, h0 h⟩, src_nil _ _ _⟩
  · exact ⟨_, _, rfl, (fun h => by cases h), src_row hs hc⟩
/-- the cells of a new block -/
theorem cells_new (w : World) (l : List Value) (t : TypeId) : ∀ j u, l[j]? = some u → (w.alloc (.cells l.toArray t)).cell? ((⟨w.heap.size, 0, none⟩ : Addr).add j) = some u := by
  intro j u hu
  rw [add_plain, Nat.zero_add, World.cell?_alloc_at _ _ _ _ rfl]
  simpa using hu
/-- an owned row as a slice's row -/
theorem row_own {w : World} {B g n c : Nat} {zs : List Int} {xs : List Value} (ho : w.ownsRow B 5 1 (.slice (some ⟨g, 0, none⟩) n c) n xs) (hx : xs = zs.map (Value.int .u8)) (hz : ∀ j, 0 ≤ zs.getD j 0 ∧ zs.getD j 0 ≤ 255) (hn : n = zs.length) :
    Row w (some ⟨g, 0, none⟩) zs.length zs := by
  refine row_clone hz (ho.lt g rfl).2 (fun j hj => ?_)
  rw [ho.cellAt j (by omega), hx, List.getElem?_map, List.getElem?_eq_getElem hj]
  simp [List.getD, hj]
end Go.Proofs.Qxb6601954a
