import Derived.Test.Qxb6601937aPlain
namespace Go.Proofs.Qxb6601937a

theorem split_last (ss : List ByteArray) (h : 0 < ss.length) : ss = ss.take (ss.length - 1) ++ [ss.getD (ss.length - 1) ByteArray.empty] := by
  conv => lhs; rw [← List.take_append_drop (ss.length - 1) ss]
  congr 1
  rw [List.drop_eq_getElem_cons (by omega), List.drop_of_length_le (by omega)]
  simp [List.getD, List.getElem?_eq_getElem (show ss.length - 1 < ss.length by omega)]

theorem english_length (ss : List ByteArray) : (english ss).length = tot ss + (if 2 ≤ ss.length then 5 + 2 * (ss.length - 2) else 0) := by
  unfold english
  by_cases h : ss.length ≤ 1
  · rw [if_pos h, if_neg (by omega)]
    match ss, h with
    | [], _ => rfl
    | [x], _ => simp [Lib.join_one, tot]
  · rw [if_neg h, if_pos (by omega)]
    have e := split_last ss (by omega)
    have e2 : tot ss = tot (ss.take (ss.length - 1)) + (ss.getD (ss.length - 1) ByteArray.empty).size := by
      conv => lhs; rw [e]
      rw [tot_append]
      simp [tot]
    have e3 : (ss.take (ss.length - 1)).length = ss.length - 1 := by simp
    have e4 : (ss.getD (ss.length - 1) ByteArray.empty).data.toList.length = (ss.getD (ss.length - 1) ByteArray.empty).size := rfl
    rw [List.length_append, List.length_append, e4, e2]
    generalize ss.take (ss.length - 1) = t at *
    match t, e3 with
    | [], e3 => simp at e3; omega
    | x :: r, e3 =>
      have h1 := lens_tot (x :: r)
      rw [List.map_cons] at h1 ⊢
      rw [Lib.join_length, h1, List.length_map]
      simp [and5, comma] at e3 ⊢
      omega


/-- the model of the law 'FnFieldNamesIsEnglishList': what has been laid when the first k names are in -/
def model (ss : List ByteArray) : Nat → List UInt8
  | 0 => []
  | k + 1 => model ss k ++ (if 0 < k then (if k = ss.length - 1 then and5 else comma) else []) ++ (ss.getD k ByteArray.empty).data.toList

theorem take_snoc' (ss : List ByteArray) (k : Nat) (h : k < ss.length) : ss.take (k + 1) = ss.take k ++ [ss.getD k ByteArray.empty] := by
  rw [List.take_succ_eq_append_getElem h]; simp [List.getD, h]

theorem join_snoc (t : List ByteArray) (s : ByteArray) (sep : List UInt8) (h : 0 < t.length) : Lib.join ((t ++ [s]).map (·.data.toList)) sep = Lib.join (t.map (·.data.toList)) sep ++ sep ++ s.data.toList := by
  match t, h with
  | x :: r, _ =>
    simp only [List.cons_append, List.map_cons, List.map_append, List.map_nil, Lib.join_cons, Lib.joinTail, List.map_append, List.flatten_append, List.append_assoc]
    simp

/-- while no name but the last is left out, the model is Join's own -/
theorem model_join (ss : List ByteArray) (k : Nat) (h : k < ss.length) : model ss k = Lib.join ((ss.take k).map (·.data.toList)) comma := by
  induction k with
  | zero => simp [model, Lib.join_nil]
  | succ k ih =>
    have hk := ih (by omega)
    rw [take_snoc' ss k (by omega)]
    cases k with
    | zero => simp [model, Lib.join_one]
    | succ k =>
      rw [join_snoc _ _ _ (by simp; omega), ← hk]
      rw [model, if_pos (by omega), if_neg (by omega)]

theorem model_english (ss : List ByteArray) : model ss ss.length = english ss := by
  unfold english
  by_cases h : ss.length ≤ 1
  · rw [if_pos h]
    match ss, h with
    | [], _ => rfl
    | [x], _ => simp [model, Lib.join_one]
  · rw [if_neg h]
    obtain ⟨n, hn⟩ : ∃ n, ss.length = n + 1 := ⟨ss.length - 1, by omega⟩
    have h2 := model_join ss n (by omega)
    rw [hn, model, if_pos (by omega), if_pos (by omega), h2]
    simp

theorem model_le (ss : List ByteArray) (k : Nat) (h : k ≤ ss.length) : (model ss k).length ≤ tot (ss.take k) + 5 * k := by
  induction k with
  | zero => simp [model]
  | succ k ih =>
    have hk := ih (by omega)
    rw [take_snoc' ss k (by omega), tot_append, model, List.length_append, List.length_append]
    have e : tot [ss.getD k ByteArray.empty] = (ss.getD k ByteArray.empty).data.toList.length := by simp [tot]
    rw [e]
    have : (if 0 < k then (if k = ss.length - 1 then and5 else comma) else []).length ≤ 5 := by
      split
      · split <;> simp [and5, comma]
      · simp
    omega

end Go.Proofs.Qxb6601937a
