import Derived.Test.Qxb6609485aKey
namespace Go.Proofs.Qxb6609485a
open Go.RowKit
open Go.Lib (compareBytes)

def padn : Nat → List UInt8 → List UInt8
  | 0, _ => []
  | n + 1, [] => 0 :: padn n []
  | n + 1, x :: l => x :: padn n l
theorem padn_eq : ∀ (n : Nat) (l : List UInt8), l.take n ++ List.replicate (n - l.length) 0 = padn n l
  | 0, l => by simp [padn]
  | n + 1, [] => by
    have := padn_eq n []
    simp [padn, List.replicate_succ] at this ⊢
    exact this
  | n + 1, x :: l => by
    have := padn_eq n l
    simp [padn] at this ⊢
    exact this
theorem pad8_eq (l : List UInt8) : pad8 l = padn 8 l := padn_eq 8 l

theorem cmp_nil_r (a : List UInt8) : 0 ≤ compareBytes a [] := by
  cases a <;> simp [compareBytes]
theorem cmp_nil_l (a : List UInt8) : compareBytes [] a ≤ 0 := by
  cases a <;> simp [compareBytes]
theorem cmp_self (a : List UInt8) : compareBytes a a = 0 := by
  induction a with
  | nil => rfl
  | cons x a ih => simp [compareBytes, ih]
theorem pad_lt : ∀ (n : Nat) (a b : List UInt8), compareBytes (padn n a) (padn n b) = -1 → compareBytes a b = -1
  | 0, a, b, h => by simp [padn, compareBytes] at h
  | n + 1, [], [], h => by rw [cmp_self] at h; omega
  | n + 1, [], y :: b, h => by simp [compareBytes]
  | n + 1, x :: a, [], h => by
    exfalso
    have ih := pad_lt n a []
    unfold padn compareBytes at h
    split at h
    · rename_i h1; exact absurd (UInt8.lt_iff_toNat_lt.1 h1) (by simp)
    · split at h
      · omega
      · have := ih h; have := cmp_nil_r a; omega
  | n + 1, x :: a, y :: b, h => by
    have ih := pad_lt n a b
    unfold padn compareBytes at h
    unfold compareBytes
    split at h
    · rename_i h1; rw [if_pos h1]
    · rename_i h1
      rw [if_neg h1]
      split at h
      · omega
      · rename_i h2
        rw [if_neg h2]
        exact ih h
theorem cmp_flip : ∀ (a b : List UInt8), compareBytes a b = - compareBytes b a
  | [], [] => rfl
  | [], _ :: _ => rfl
  | _ :: _, [] => rfl
  | x :: a, y :: b => by
    have ih := cmp_flip a b
    simp only [compareBytes]
    by_cases h1 : x < y
    · have h2 : ¬ y < x := UInt8.lt_asymm h1
      simp [h1, h2]
    · by_cases h2 : y < x
      · simp [h1, h2]
      · simp [h1, h2, ih]
theorem cmp_range : ∀ (a b : List UInt8), compareBytes a b = -1 ∨ compareBytes a b = 0 ∨ compareBytes a b = 1
  | [], [] => Or.inr (Or.inl rfl)
  | [], _ :: _ => Or.inl rfl
  | _ :: _, [] => Or.inr (Or.inr rfl)
  | x :: a, y :: b => by
    have ih := cmp_range a b
    simp only [compareBytes]
    by_cases h1 : x < y
    · simp [h1]
    · by_cases h2 : y < x
      · simp [h1, h2]
      · simp only [h1, h2, if_false]; exact ih

/-- Rows of one length: the numbers that they spell stand as their bytes do. -/
theorem be_lt : ∀ (p q : List UInt8) (x y : Nat), p.length = q.length → Lib.beFrom x p < Lib.beFrom y q → x < y ∨ (x = y ∧ compareBytes p q = -1)
  | [], [], x, y, _, h => Or.inl h
  | a :: p, b :: q, x, y, hl, h => by
    have ha := a.toNat_lt
    have hb := b.toNat_lt
    rcases be_lt p q (x * 256 + a.toNat) (y * 256 + b.toNat) (by simpa using hl) h with h1 | ⟨h1, h2⟩
    · by_cases hxy : x < y
      · exact Or.inl hxy
      · right
        have e : x = y := by omega
        subst e
        refine ⟨rfl, ?_⟩
        unfold compareBytes
        rw [if_pos (UInt8.lt_iff_toNat_lt.2 (by omega))]
    · by_cases hxy : x < y
      · exact Or.inl hxy
      · right
        have e : x = y := by omega
        subst e
        have e2 : a = b := UInt8.toNat_inj.1 (by omega)
        subst e2
        refine ⟨rfl, ?_⟩
        unfold compareBytes
        simp [h2]
/-- A key's head orders two ids as their bytes do, wherever it differs. -/
theorem head_lt (a b : ByteArray) (h : head a < head b) : compareBytes a.data.toList b.data.toList = -1 := by
  unfold head Lib.beNat at h
  rcases be_lt _ _ 0 0 (by rw [pad8_length, pad8_length]) h with h1 | ⟨_, h2⟩
  · omega
  · rw [pad8_eq, pad8_eq] at h2
    exact pad_lt 8 _ _ h2
theorem head_gt (a b : ByteArray) (h : head b < head a) : compareBytes a.data.toList b.data.toList = 1 := by
  rw [cmp_flip, head_lt b a h]; rfl

end Go.Proofs.Qxb6609485a
