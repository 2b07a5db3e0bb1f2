/-
  PLAIN LAWS ON BYTE STRINGS: no Go program in sight. Used by the two proofs of this seat.
-/
import Derived.WalkKit
namespace Go.Proofs.Qxb6612848a.Plain

theorem toList_data (s : ByteArray) : s.toList = s.data.toList := ByteArray.toList_eq s
theorem toList_append (x y : ByteArray) : (x ++ y).toList = x.toList ++ y.toList := by
  rw [toList_data, toList_data, toList_data]; simp
theorem extract_toList (s : ByteArray) (a b : Nat) : (s.extract a b).toList = (s.data.toList.drop a).take (b - a) := by
  rw [toList_data]; simp
theorem less_append (x a b : List UInt8) : Op.bytesLess (x ++ a) (x ++ b) = Op.bytesLess a b := by
  induction x with
  | nil => rfl
  | cons c x ih => simp [Op.bytesLess, ih]
theorem joins (x a b : ByteArray) : (!(x ++ (a ++ b)).toList == (x ++ a ++ b).toList) = false := by
  rw [ByteArray.append_assoc]; simp
theorem tail_is (x a : ByteArray) (n : Nat) (hx : x.size = n) : ((x ++ a).extract n (n + a.size)).toList = a.toList := by
  rw [extract_toList, toList_data]
  subst hx
  have h : x.size = x.data.toList.length := by simp
  have h2 : a.size = a.data.toList.length := by simp
  simp only [ByteArray.data_append, Array.toList_append]
  rw [h, List.drop_left' rfl, h2]
  rw [Nat.add_sub_cancel_left, List.take_length]
theorem head_is (x a : ByteArray) (n : Nat) (hx : x.size = n) : ((x ++ a).extract 0 n).toList = x.toList := by
  rw [extract_toList, toList_data]
  subst hx
  have h : x.size = x.data.toList.length := by simp
  simp only [ByteArray.data_append, Array.toList_append]
  rw [h]; simp
theorem tail_beq (x a : ByteArray) (n : Nat) (hx : x.size = n) : ((x ++ a).extract n (n + a.size)).toList == a.toList := by
  rw [tail_is x a n hx]; simp
theorem same_append (x a b : ByteArray) : ((x ++ a).toList == (x ++ b).toList) = (a.toList == b.toList) := by
  rw [toList_append, toList_append, Bool.eq_iff_iff, beq_iff_eq, beq_iff_eq]
  exact List.append_right_inj _
theorem less_append' (x a b : ByteArray) : Op.bytesLess (x ++ a).toList (x ++ b).toList = Op.bytesLess a.toList b.toList := by
  rw [toList_append, toList_append, less_append]

end Go.Proofs.Qxb6612848a.Plain
