/-
  DERIVED. Seat b6617643a: the plain law: nothing of Go's walk in it.
-/
import Derived.Test.Qxb6617643aNoteA
namespace Go.Proofs.Qxb6617643a

def tot (xs : List ByteArray) : Nat := (xs.map (fun x => 16 + x.size)).sum

theorem tot_append (xs ys : List ByteArray) : tot (xs ++ ys) = tot xs + tot ys := by simp [tot]
theorem tot_split (xs : List ByteArray) (k : Nat) : tot (xs.take k) + tot (xs.drop k) = tot xs := by
  rw [← tot_append, List.take_append_drop]
theorem tot_take_succ (xs : List ByteArray) (k : Nat) (h : k < xs.length) : tot (xs.take (k + 1)) = tot (xs.take k) + (16 + (xs.getD k ByteArray.empty).size) := by
  rw [List.take_succ_eq_append_getElem h, tot_append]
  simp [tot, h]

theorem joinTail_cons (sep y : List UInt8) (ys : List (List UInt8)) : Lib.joinTail sep (y :: ys) = sep ++ (y ++ Lib.joinTail sep ys) := by
  simp [Lib.joinTail]
theorem joinTail_append (sep : List UInt8) (xs ys : List (List UInt8)) : Lib.joinTail sep (xs ++ ys) = Lib.joinTail sep xs ++ Lib.joinTail sep ys := by
  simp [Lib.joinTail]
theorem joinTail_le (xs : List ByteArray) : (Lib.joinTail [44, 32, 97, 110, 100, 32] (xs.map (·.data.toList))).length ≤ tot xs := by
  induction xs with
  | nil => simp [Lib.joinTail]
  | cons x xs ih =>
    rw [List.map_cons, joinTail_cons]
    have : tot (x :: xs) = 16 + x.size + tot xs := by simp [tot]
    have hx : x.data.toList.length = x.size := by simp
    simp only [List.length_append, List.length_cons, List.length_nil, hx]
    omega

theorem joined_size_le (xs : List ByteArray) : (joined xs).size ≤ tot xs := by
  have h : (joined xs).size = (Lib.join (xs.map (·.data.toList)) [44, 32, 97, 110, 100, 32]).length := rfl
  rw [h]
  cases xs with
  | nil => simp [Lib.join_nil]
  | cons x xs =>
    rw [List.map_cons, Lib.join_cons]
    have : tot (x :: xs) = 16 + x.size + tot xs := by simp [tot]
    have hx : x.data.toList.length = x.size := by simp
    have := joinTail_le xs
    simp only [List.length_append, hx]
    omega

theorem joined_nil : joined [] = ⟨#[]⟩ := rfl
theorem joined_one (x : ByteArray) : joined [x] = x := by
  unfold joined
  rw [List.map_cons, List.map_nil, Lib.join_one]

theorem joined_split (xs ys : List ByteArray) (hx : xs ≠ []) (hy : ys ≠ []) : joined (xs ++ ys) = joined xs ++ ⟨#[44, 32, 97, 110, 100, 32]⟩ ++ joined ys := by
  obtain ⟨x, xs, rfl⟩ := List.exists_cons_of_ne_nil hx
  obtain ⟨y, ys, rfl⟩ := List.exists_cons_of_ne_nil hy
  apply ByteArray.ext
  simp only [ByteArray.data_append]
  unfold joined
  simp only [List.cons_append, List.map_cons, List.map_append, Lib.join_cons, joinTail_append, joinTail_cons]
  simp

theorem joined_cut (xs : List ByteArray) (k : Nat) (h0 : 0 < k) (h1 : k < xs.length) : joined xs = joined (xs.take k) ++ ⟨#[44, 32, 97, 110, 100, 32]⟩ ++ joined (xs.drop k) := by
  have ht : (xs.take k).length = k := by rw [List.length_take]; omega
  have hd : (xs.drop k).length = xs.length - k := List.length_drop
  rw [← joined_split _ _ (by intro h; rw [h] at ht; simp at ht; omega) (by intro h; rw [h] at hd; simp at hd; omega), List.take_append_drop]

end Go.Proofs.Qxb6617643a
