import Derived.Lib.Bytealg
namespace Go.Proofs.Qxb6609485a
open Go.Lib (compareBytes)

theorem cmp_step (a b : List UInt8) (k : Nat) (ha : k < a.length) (hb : k < b.length) :
    compareBytes (a.drop k) (b.drop k) = if a[k] < b[k] then -1 else if b[k] < a[k] then 1 else compareBytes (a.drop (k + 1)) (b.drop (k + 1)) := by
  rw [List.drop_eq_getElem_cons ha, List.drop_eq_getElem_cons hb]
  rfl

theorem cmp_left (a b : List UInt8) (k : Nat) (ha : a.length ≤ k) (hb : k < b.length) : compareBytes (a.drop k) (b.drop k) = -1 := by
  rw [List.drop_eq_getElem_cons hb, List.drop_of_length_le ha]
  rfl
theorem cmp_right (a b : List UInt8) (k : Nat) (ha : k < a.length) (hb : b.length ≤ k) : compareBytes (a.drop k) (b.drop k) = 1 := by
  rw [List.drop_eq_getElem_cons ha, List.drop_of_length_le hb]
  rfl
theorem cmp_both (a b : List UInt8) (k : Nat) (ha : a.length ≤ k) (hb : b.length ≤ k) : compareBytes (a.drop k) (b.drop k) = 0 := by
  rw [List.drop_of_length_le ha, List.drop_of_length_le hb]
  rfl

/-- The loop of zzByteCompare, a way each. -/
theorem cb_lt (a b : ByteArray) (k : Nat) (ha : k < a.size) (hb : k < b.size) (h : a[k].toNat < b[k].toNat)
    (hq : compareBytes (a.data.toList.drop k) (b.data.toList.drop k) = compareBytes a.data.toList b.data.toList) : compareBytes a.data.toList b.data.toList = -1 := by
  rw [← hq, cmp_step _ _ k ha hb]
  exact if_pos (UInt8.lt_iff_toNat_lt.2 h)
theorem cb_gt (a b : ByteArray) (k : Nat) (ha : k < a.size) (hb : k < b.size) (h : b[k].toNat < a[k].toNat)
    (hq : compareBytes (a.data.toList.drop k) (b.data.toList.drop k) = compareBytes a.data.toList b.data.toList) : compareBytes a.data.toList b.data.toList = 1 := by
  rw [← hq, cmp_step _ _ k ha hb, if_neg]
  · exact if_pos (UInt8.lt_iff_toNat_lt.2 h)
  intro h2
  have := UInt8.lt_iff_toNat_lt.1 h2
  have e1 : (a.data.toList[k]'ha) = a[k] := rfl
  have e2 : (b.data.toList[k]'hb) = b[k] := rfl
  rw [e1, e2] at this
  omega
theorem cb_eq (a b : ByteArray) (k : Nat) (ha : k < a.size) (hb : k < b.size) (h1 : ¬ a[k].toNat < b[k].toNat) (h2 : ¬ b[k].toNat < a[k].toNat)
    (hq : compareBytes (a.data.toList.drop k) (b.data.toList.drop k) = compareBytes a.data.toList b.data.toList) :
    compareBytes (a.data.toList.drop (k + 1)) (b.data.toList.drop (k + 1)) = compareBytes a.data.toList b.data.toList := by
  rw [← hq, cmp_step _ _ k ha hb, if_neg, if_neg]
  · intro h; exact h2 (UInt8.lt_iff_toNat_lt.1 h)
  · intro h; exact h1 (UInt8.lt_iff_toNat_lt.1 h)
theorem cb_end (a b : ByteArray) (k : Nat) (ha : k ≤ a.size) (hb : k ≤ b.size) (h : ¬ (k < a.size ∧ k < b.size))
    (hq : compareBytes (a.data.toList.drop k) (b.data.toList.drop k) = compareBytes a.data.toList b.data.toList) :
    compareBytes a.data.toList b.data.toList = if a.size < b.size then -1 else if b.size < a.size then 1 else 0 := by
  rw [← hq]
  have e1 : a.data.toList.length = a.size := rfl
  have e2 : b.data.toList.length = b.size := rfl
  split
  · exact cmp_left _ _ _ (by omega) (by omega)
  · split
    · exact cmp_right _ _ _ (by omega) (by omega)
    · exact cmp_both _ _ _ (by omega) (by omega)
end Go.Proofs.Qxb6609485a
