import Derived.Test.Qxb6609485aHeap
namespace Go.Proofs.Qxb6609485a
open Go.Lib (compareBytes)

/-! ### The plain law: the two counts are one -/
/-- What a state says of its document. -/
def dsOf (z : Int) : Option Bool := if z = 0 then some false else if z = 1 then some true else none

/-- The documents that the law counts among the first k. -/
def wantTo (zs : Nat → Int) (c : Nat → Bool) : Nat → Nat
  | 0 => 0
  | k + 1 => wantTo zs c k + if zs k = 0 ∧ c k = true then 1 else 0
theorem wantTo_le (zs : Nat → Int) (c : Nat → Bool) : ∀ k, wantTo zs c k ≤ k
  | 0 => Nat.le_refl _
  | k + 1 => by have := wantTo_le zs c k; simp only [wantTo]; split <;> omega
theorem want_live (zs : Nat → Int) (c : Nat → Bool) (M : Nat) : ∀ k, (∀ i, i < k → (c i = true ↔ i < M)) → wantTo zs c k = live zs 0 (min k M)
  | 0, _ => by simp [wantTo, live]
  | k + 1, h => by
    have ih := want_live zs c M k (fun i hi => h i (by omega))
    have hk := h k (by omega)
    simp only [wantTo]
    by_cases hM : k < M
    · rw [show min (k + 1) M = k + 1 from by omega, ih, show min k M = k from by omega, live, Nat.zero_add]
      simp [hk.2 hM]
    · rw [show min (k + 1) M = min k M from by omega, ih]
      have : ¬ c k = true := fun h' => hM (hk.1 h')
      simp [this]
theorem live_add (zs : Nat → Int) (lo : Nat) : ∀ m, live zs 0 (lo + m) = live zs 0 lo + live zs lo m
  | 0 => by simp [live]
  | m + 1 => by
    have := live_add zs lo m
    rw [show lo + (m + 1) = (lo + m) + 1 from by omega, live, this, live, Nat.zero_add]
    omega
theorem cnt_dsOf (z : Int) : cnt (dsOf z) = if z = 0 then 1 else 0 := by
  unfold dsOf
  by_cases h0 : z = 0
  · simp [h0, cnt]
  · by_cases h1 : z = 1
    · simp [h1, cnt]
    · simp [h0, h1, cnt]
theorem cntTo_live (zs : Nat → Int) (lo : Nat) : ∀ u, cntTo (fun j => dsOf (zs (lo + j))) u = live zs lo u
  | 0 => rfl
  | u + 1 => by rw [cntTo, live, cntTo_live zs lo u, cnt_dsOf]
/-- How long chunk k is. -/
def lenOf (n P k : Nat) : Nat := min ((k + 1) * P) n - k * P
theorem sum_live (zs : Nat → Int) (n P : Nat) : ∀ K, K * P ≤ n → sumTo (fun k => live zs (k * P) (lenOf n P k)) K = live zs 0 (K * P)
  | 0, _ => by simp [sumTo, live]
  | K + 1, h => by
    have e : (K + 1) * P = K * P + P := by rw [Nat.add_mul, Nat.one_mul]
    rw [sumTo, sum_live zs n P K (by omega), e, live_add]
    congr 2
    unfold lenOf
    rw [e]; omega

/-- What the law counts. -/
def condOf (ss : Nat → ByteArray) (b : ByteArray) (inc : Bool) (i : Nat) : Bool := decide (ordAt ss b i < 0) || (decide (ordAt ss b i = 0) && inc)

theorem leaf_iff {len : Nat} {ss : Nat → ByteArray} {b : ByteArray} {inc : Bool} {i : Nat} {f : Bool} (hs : Spec len (ordAt ss b) i f) (hmono : ∀ i j, i < j → j < len → 0 ≤ ordAt ss b i → 0 < ordAt ss b j) (j : Nat) (hj : j < len) :
    condOf ss b inc j = true ↔ j < upTo i f inc := by
  unfold condOf upTo
  have hlo := hs.lo
  have hhi := hs.hi
  have hfd := hs.fd
  by_cases hfi : (f && inc) = true
  · rw [if_pos hfi]
    simp at hfi
    obtain ⟨hf, hinc⟩ := hfi
    have hz := hfd.1 hf
    by_cases hji : j < i
    · have := hlo j hji; simp [this]; omega
    · by_cases e : j = i
      · subst e; simp [hz.2, hinc]
      · have := hmono i j (by omega) hj (by omega)
        simp; omega
  · rw [if_neg hfi]
    by_cases hji : j < i
    · have := hlo j hji; simp [this]; omega
    · have h0 := hhi j (by omega) hj
      constructor
      · intro h
        exfalso
        simp at h
        rcases h with h | ⟨h, hinc⟩
        · omega
        · have e : j = i := by
            by_cases e : j = i
            · exact e
            · have h1 := hhi i (Nat.le_refl _) (by omega)
              have := hmono i j (by omega) hj h1
              omega
          subst e
          exact hfi (by simp [hfd.2 ⟨hj, h⟩, hinc])
      · intro h; omega

theorem kid_le {m : Nat} {ord : Nat → Int} {i : Nat} {f : Bool} (hs : Spec m ord i f) (x : Nat) (hx : x < childOf i f) : ord x ≤ 0 := by
  unfold childOf at hx
  cases f
  · simp at hx; have := hs.lo x hx; omega
  · simp at hx
    by_cases e : x = i
    · rw [e, (hs.fd.1 rfl).2]; exact Int.le_refl _
    · have := hs.lo x (by omega); omega
theorem kid_gt {m : Nat} {ord : Nat → Int} {i : Nat} {f : Bool} (hs : Spec m ord i f) (hmono : ∀ i j, i < j → j < m → 0 ≤ ord i → 0 < ord j) (x : Nat) (hx : childOf i f ≤ x) (hm : x < m) : 0 < ord x := by
  unfold childOf at hx
  cases f
  · simp at hx
    have h0 := hs.hi x hx hm
    by_cases e : x = i
    · subst e
      have : ¬ ord x = 0 := fun h => by have := hs.fd.2 ⟨hm, h⟩; simp at this
      omega
    · exact hmono i x (by omega) hm (hs.hi i (Nat.le_refl _) (by omega))
  · simp at hx
    exact hmono i x (by omega) hm (by rw [(hs.fd.1 rfl).2]; exact Int.le_refl _)

/-- THE LAW: what 'below' answers is what the law's own loop counts. K: the chunk that the search came to; 'first': its first id is not past the key (unless it is the first chunk); 'next': the next chunk's is. -/
theorem counted {n P K : Nat} {ss : Nat → ByteArray} {zs : Nat → Int} {b : ByteArray} {inc : Bool} {i : Nat} {f : Bool} (hinc : ∀ i, i + 1 < n → compareBytes (ss i).data.toList (ss (i + 1)).data.toList < 0)
    (hKn : K * P < n)
    (first : K = 0 ∨ ordAt ss b (K * P) ≤ 0) (next : (K + 1) * P < n → 0 < ordAt ss b ((K + 1) * P))
    (hs : Spec (lenOf n P K) (ordAt (fun j => ss (K * P + j)) b) i f) :
    sumTo (fun k => live zs (k * P) (lenOf n P k)) K + cntTo (fun j => dsOf (zs (K * P + j))) (upTo i f inc) = wantTo zs (condOf ss b inc) n := by
  have hmono := incr_mono ss n b hinc
  have e : (K + 1) * P = K * P + P := by rw [Nat.add_mul, Nat.one_mul]
  have hlen : K * P + lenOf n P K ≤ n := by unfold lenOf; omega
  have hu : upTo i f inc ≤ lenOf n P K := by
    unfold upTo
    split
    · rename_i h; simp at h; have := (hs.fd.1 h.1).1; omega
    · exact hs.le
  rw [want_live zs (condOf ss b inc) (K * P + upTo i f inc) n, sum_live zs n P K (by omega), cntTo_live, show min n (K * P + upTo i f inc) = K * P + upTo i f inc from by omega, live_add]
  intro x hx
  by_cases h1 : x < K * P
  · have ho : ordAt ss b x < 0 := by
      rcases first with h | h
      · subst h; simp at h1
      · refine Int.lt_of_not_ge fun h0 => ?_
        have := hmono x (K * P) h1 hKn h0
        unfold ordAt at h
        omega
    unfold condOf
    simp [ho]; omega
  · by_cases h2 : x < K * P + lenOf n P K
    · obtain ⟨j, rfl⟩ : ∃ j, x = K * P + j := ⟨x - K * P, by omega⟩
      have := leaf_iff (inc := inc) hs (fun i j hij hj h0 => hmono (K * P + i) (K * P + j) (by omega) (by omega) h0) j (by omega)
      unfold condOf ordAt at this ⊢
      rw [this]; omega
    · have hP : (K + 1) * P < n ∨ (K + 1) * P = x := by unfold lenOf at h2; omega
      have hge : (K + 1) * P ≤ x := by unfold lenOf at h2; omega
      have ho : 0 < ordAt ss b x := by
        have h3 := next (by omega)
        by_cases e2 : x = (K + 1) * P
        · rw [e2]; exact h3
        · exact hmono ((K + 1) * P) x (by omega) hx (Int.le_of_lt h3)
      unfold condOf
      constructor
      · intro h; simp at h; omega
      · intro h; omega

end Go.Proofs.Qxb6609485a
