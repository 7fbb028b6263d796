import Derived.Test.Qxb6609485aHead
namespace Go.Proofs.Qxb6609485a
open Go.Lib (compareBytes)

theorem cmp_zero : ∀ (a b : List UInt8), compareBytes a b = 0 → a = b
  | [], [], _ => rfl
  | [], _ :: _, h => by simp [compareBytes] at h
  | _ :: _, [], h => by simp [compareBytes] at h
  | x :: a, y :: b, h => by
    simp only [compareBytes] at h
    by_cases h1 : x < y
    · simp [h1] at h
    · by_cases h2 : y < x
      · simp [h1, h2] at h
      · simp only [h1, h2, if_false] at h
        have e : x = y := UInt8.le_antisymm (UInt8.not_lt.1 h2) (UInt8.not_lt.1 h1)
        rw [e, cmp_zero a b h]
/-- The order is transitive. -/
theorem cmp_trans : ∀ (a b c : List UInt8), compareBytes a b = -1 → compareBytes b c = -1 → compareBytes a c = -1
  | a, b, [], _, h2 => by have := cmp_nil_r b; omega
  | a, [], _, h1, _ => by have := cmp_nil_r a; omega
  | [], _ :: _, _ :: _, _, _ => rfl
  | x :: a, y :: b, z :: c, h1, h2 => by
    have ih := cmp_trans a b c
    simp only [compareBytes] at h1 h2 ⊢
    by_cases hxy : x < y
    · by_cases hyz : y < z
      · rw [if_pos (UInt8.lt_trans hxy hyz)]
      · by_cases hzy : z < y
        · simp [hyz, hzy] at h2
        · have e : y = z := UInt8.le_antisymm (UInt8.not_lt.1 hzy) (UInt8.not_lt.1 hyz)
          rw [← e, if_pos hxy]
    · by_cases hyx : y < x
      · simp [hxy, hyx] at h1
      · have e : x = y := UInt8.le_antisymm (UInt8.not_lt.1 hyx) (UInt8.not_lt.1 hxy)
        subst e
        simp only [hxy, if_false] at h1
        by_cases hyz : x < z
        · rw [if_pos hyz]
        · by_cases hzy : z < x
          · simp [hyz, hzy] at h2
          · simp only [hyz, hzy, if_false] at h2 ⊢
            exact ih h1 h2
theorem cmp_neg (a b : List UInt8) (h : compareBytes a b < 0) : compareBytes a b = -1 := by
  rcases cmp_range a b with h1 | h1 | h1 <;> omega
theorem cmp_lt_trans (a b c : List UInt8) (h1 : compareBytes a b < 0) (h2 : compareBytes b c < 0) : compareBytes a c < 0 := by
  rw [cmp_trans a b c (cmp_neg _ _ h1) (cmp_neg _ _ h2)]; decide
/-- What lies at or past the key has all that lies past it past the key. -/
theorem cmp_past (a b k : List UInt8) (h1 : compareBytes a b < 0) (h2 : 0 ≤ compareBytes a k) : 0 < compareBytes b k := by
  rcases cmp_range a k with h | h | h
  · omega
  · have e := cmp_zero a k h
    subst e
    have := cmp_flip b a
    omega
  · have h3 : compareBytes k a < 0 := by have := cmp_flip a k; omega
    have h4 := cmp_lt_trans k a b h3 h1
    have := cmp_flip b k
    omega
theorem incr_lt (ss : Nat → ByteArray) (n : Nat) (h : ∀ i, i + 1 < n → compareBytes (ss i).data.toList (ss (i + 1)).data.toList < 0) (i : Nat) : ∀ d, i + d + 1 < n → compareBytes (ss i).data.toList (ss (i + d + 1)).data.toList < 0
  | 0, hd => h i hd
  | d + 1, hd => cmp_lt_trans _ _ _ (incr_lt ss n h i d (by omega)) (h (i + d + 1) (by omega))
theorem incr_mono (ss : Nat → ByteArray) (n : Nat) (k : ByteArray) (h : ∀ i, i + 1 < n → compareBytes (ss i).data.toList (ss (i + 1)).data.toList < 0) (i j : Nat) (hij : i < j) (hj : j < n)
    (h0 : 0 ≤ compareBytes (ss i).data.toList k.data.toList) : 0 < compareBytes (ss j).data.toList k.data.toList := by
  obtain ⟨d, rfl⟩ : ∃ d, j = i + d + 1 := ⟨j - i - 1, by omega⟩
  exact cmp_past _ _ _ (incr_lt ss n h i d (by omega)) h0

end Go.Proofs.Qxb6609485a
