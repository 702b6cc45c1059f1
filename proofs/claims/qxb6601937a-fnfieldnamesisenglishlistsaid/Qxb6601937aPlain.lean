import Derived.Lib.Join
namespace Go.Proofs.Qxb6601937a

/-- the bytes of a string -/
def bytes (s : ByteArray) : List UInt8 := s.data.toList
/-- the sum of the lengths -/
def tot (ss : List ByteArray) : Nat := (ss.map fun s => s.size).sum

def and5 : List UInt8 := [32, 97, 110, 100, 32]
def comma : List UInt8 := [44, 32]

/-- the English list, as 'fieldNames' makes it -/
def english (ss : List ByteArray) : List UInt8 :=
  if ss.length ≤ 1 then Lib.join (ss.map (·.data.toList)) []
  else Lib.join ((ss.take (ss.length - 1)).map (·.data.toList)) comma ++ and5 ++ (ss.getD (ss.length - 1) ByteArray.empty).data.toList

theorem lens_tot (ss : List ByteArray) : Lib.lens (ss.map (·.data.toList)) = tot ss := by
  unfold Lib.lens tot
  rw [List.map_map]
  rfl

theorem join_le (ss : List ByteArray) (sep : List UInt8) : (Lib.join (ss.map (·.data.toList)) sep).length ≤ sep.length * ss.length + tot ss := by
  cases ss with
  | nil => simp [Lib.join_nil]
  | cons x r =>
    have h := lens_tot (x :: r)
    rw [List.map_cons] at h ⊢
    rw [Lib.join_length, h, List.length_map, List.length_cons, Nat.mul_succ]
    omega

theorem tot_append (a b : List ByteArray) : tot (a ++ b) = tot a + tot b := by simp [tot, List.sum_append]
theorem tot_take (ss : List ByteArray) (k : Nat) : tot (ss.take k) ≤ tot ss := by
  have e := congrArg tot (List.take_append_drop k ss)
  rw [tot_append] at e
  omega
theorem tot_get (ss : List ByteArray) (k : Nat) (h : k < ss.length) : (ss.getD k ByteArray.empty).size ≤ tot ss := by
  induction ss generalizing k with
  | nil => simp at h
  | cons s ss ih =>
    cases k with
    | zero => simp [tot]
    | succ k =>
      have := ih k (by simpa using h)
      simp only [tot, List.map_cons, List.sum_cons, List.getD_cons_succ] at this ⊢
      omega

end Go.Proofs.Qxb6601937a
