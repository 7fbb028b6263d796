import Derived.Test.Qxb6609485aInv
namespace Go.Proofs.Qxb6609485a
open Go.RowKit
open Go.Lib (compareBytes)

theorem lenOf_le (n P k : Nat) : lenOf n P k ≤ n := by unfold lenOf; omega
theorem leaf_mono {n P : Nat} {ss : Nat → ByteArray} {b : ByteArray} (hI : Incr ss n) (k : Nat) (hk : k * P < n) : ∀ i j, i < j → j < lenOf n P k → 0 ≤ ordAt (fun x => ss (k * P + x)) b i → 0 < ordAt (fun x => ss (k * P + x)) b j := by
  intro i j hij hj h0
  have : k * P + lenOf n P k ≤ n := by unfold lenOf; omega
  exact incr_mono ss n b hI (k * P + i) (k * P + j) (by omega) (by omega) h0
theorem kid_mono {n P m : Nat} {ss : Nat → ByteArray} {b : ByteArray} (hI : Incr ss n) (hP : 1 ≤ P) (hm : m * P < n) : ∀ i j, i < j → j < m → 0 ≤ ordAt (fun x => ss ((x + 1) * P)) b i → 0 < ordAt (fun x => ss ((x + 1) * P)) b j := by
  intro i j hij hj h0
  have h1 : (i + 1) * P < (j + 1) * P := Nat.mul_lt_mul_of_pos_right (by omega) (by omega)
  have h2 : (j + 1) * P ≤ m * P := Nat.mul_le_mul_right P (by omega)
  exact incr_mono ss n b hI ((i + 1) * P) ((j + 1) * P) h1 (by omega) h0

theorem answer_one {w wr : World} {n P : Nat} {ss : Nat → ByteArray} {zs : Nat → Int} {kv lv : Value} (b : ByteArray) (inc : Bool) (q : Int) (h : Inv w n P ss zs 1 kv lv wr) (hI : Incr ss n) (hn : n ≤ 65536) (hn0 : 0 < n) (hnP : n ≤ P) :
    ∃ p : Nat, lv = .pointer (some ⟨p, 0, none⟩) ∧ Calls Try.prog 24 #[.pointer (some ⟨wr.heap.size, 0, none⟩), .string b, .bool inc] (wr.alloc (.cells #[.pointer (some ⟨p, 0, none⟩), .int .i64 q, .int .u64 0] 57))
      fun e w' => e = .returned (.int .i64 (wantTo zs (condOf ss b inc) n : Nat)) ∧ Below (wr.alloc (.cells #[.pointer (some ⟨p, 0, none⟩), .int .i64 q, .int .u64 0] 57)).heap.size (wr.alloc (.cells #[.pointer (some ⟨p, 0, none⟩), .int .i64 q, .int .u64 0] 57)) w' := by
  obtain ⟨lps, vs, Lss, h1, _, h3, _⟩ := h
  refine ⟨lps 0, h3 0 rfl, ?_⟩
  have hb : Below wr.heap.size wr (wr.alloc (.cells #[.pointer (some ⟨lps 0, 0, none⟩), .int .i64 q, .int .u64 0] 57)) := (Below.refl _ _).alloc (Nat.le_refl _) _
  obtain ⟨g, cap, _, hc, hl⟩ := ((h1 0 (by omega)).kept (Kept.of_below (T := 0) hb) (by decide) (by decide) (by decide)).leaf
  have hk0 : 0 * P < n := by omega
  have hmono := leaf_mono (b := b) hI 0 hk0
  obtain ⟨i, f, hs⟩ := spec_some _ _ hmono
  have hlen := lenOf_le n P 0
  have hany := below_any wr.heap.size (lps 0) (lps 0) 0 g 0 (lenOf n P 0) cap _ _ _ b inc _ (by simp) (by simp) hl (by omega) hc hmono i f hs _ rfl (by omega) (Or.inl ⟨rfl, rfl⟩)
  have hcnt := counted (zs := zs) (inc := inc) (K := 0) (P := P) (n := n) (ss := ss) (b := b) hI hk0 (Or.inl rfl) (fun h => by omega) hs
  rw [sumTo] at hcnt
  rw [← hcnt]
  exact hany

theorem answer_many {w wr : World} {n P m : Nat} {ss : Nat → ByteArray} {zs : Nat → Int} {kv lv : Value} (b : ByteArray) (inc : Bool) (q : Int) (h : Inv w n P ss zs (m + 1) kv lv wr) (hI : Incr ss n) (hn : n ≤ 65536) (hP : 1 ≤ P) (hm1 : 1 ≤ m) (hm : m * P < n) (hnc : n ≤ (m + 1) * P) :
    ∃ g cap, kv = .slice (some ⟨g, 0, none⟩) (m + 1) cap ∧ Calls Try.prog 24 #[.pointer (some ⟨wr.heap.size + 1, 0, none⟩), .string b, .bool inc] ((wr.alloc (.cells #[.int .u64 0, .slice none 0 0, .slice (some ⟨g, 0, none⟩) (m + 1) cap] 59)).alloc (.cells #[.pointer (some ⟨wr.heap.size, 0, none⟩), .int .i64 q, .int .u64 0] 57))
      fun e w' => e = .returned (.int .i64 (wantTo zs (condOf ss b inc) n : Nat)) ∧ Below w.heap.size w w' := by
  obtain ⟨lps, vs, Lss, h1, h2, _, h4⟩ := h
  obtain ⟨g, cap, hkv⟩ : ∃ g cap, kv = .slice (some ⟨g, 0, none⟩) (m + 1) cap := by
    rcases h2.2 with ⟨_, h0⟩ | ⟨g, cap, _, hv, _⟩
    · omega
    · exact ⟨g, cap, hv⟩
  refine ⟨g, cap, hkv, ?_⟩
  rw [hkv] at h2
  have hbi : Below wr.heap.size wr (wr.alloc (.cells #[.int .u64 0, .slice none 0 0, .slice (some ⟨g, 0, none⟩) (m + 1) cap] 59)) := (Below.refl _ _).alloc (Nat.le_refl _) _
  have hbt := (Below.refl (wr.alloc (.cells #[.int .u64 0, .slice none 0 0, .slice (some ⟨g, 0, none⟩) (m + 1) cap] 59)).heap.size (wr.alloc (.cells #[.int .u64 0, .slice none 0 0, .slice (some ⟨g, 0, none⟩) (m + 1) cap] 59))).alloc (Nat.le_refl _) (.cells #[.pointer (some ⟨wr.heap.size, 0, none⟩), .int .i64 q, .int .u64 0] 57)
  have hb : Below wr.heap.size wr _ := hbi.trans (hbt.mono (by simp))
  obtain ⟨kg, kc, hin⟩ := inner_of (heap_alloc_new wr (.cells #[.int .u64 0, .slice none 0 0, .slice (some ⟨g, 0, none⟩) (m + 1) cap] 59)) (owns_below h2 hbi) hm1
  have hin2 := hin.below hbt
  have hmle : m ≤ m * P := Nat.le_mul_of_pos_right m (by omega)
  have hkm := kid_mono (b := b) hI hP hm
  obtain ⟨ki, kf, hks⟩ := spec_some _ _ hkm
  obtain ⟨K, hK⟩ : ∃ K, K = childOf ki kf := ⟨_, rfl⟩
  have hKm : K ≤ m := by
    rw [hK]; unfold childOf
    split
    · rename_i h; exact (hks.fd.1 h).1
    · exact hks.le
  have hKP : K * P < n := Nat.lt_of_le_of_lt (Nat.mul_le_mul_right P hKm) hm
  obtain ⟨g2, cap2, _, hc, hl⟩ := ((h1 K (by omega)).kept (Kept.of_below (T := 0) hb) (by decide) (by decide) (by decide)).leaf
  have hmono := leaf_mono (b := b) hI K hKP
  obtain ⟨i, f, hs⟩ := spec_some _ _ hmono
  have hlen := lenOf_le n P K
  have hsl := sum_live zs n P K (by omega)
  have hll := live_le zs 0 (K * P)
  have hany := below_any (wr.heap.size + 1) wr.heap.size (lps K) (sumTo (fun k => live zs (k * P) (lenOf n P k)) K) g2 0 (lenOf n P K) cap2 _ _ _ b inc _ (by simp) (by simp) hl (by omega) hc hmono i f hs _ rfl (by omega)
    (Or.inr ⟨kg, 0, m, kc, _, _, _, ki, kf, hin2, by omega, hkm, hks, by rw [← hK], by rw [hK]⟩)
  have hcnt := counted (zs := zs) (inc := inc) (K := K) (P := P) (n := n) (ss := ss) (b := b) hI hKP (by
      by_cases h0 : K = 0
      · exact Or.inl h0
      · right
        have := kid_le hks (K - 1) (by omega)
        have e : (K - 1 + 1) * P = K * P := by rw [show K - 1 + 1 = K from by omega]
        unfold ordAt at this ⊢
        simp only [e] at this
        exact this) (fun hlt => by
      have hKlt : K < m := by
        refine Nat.lt_of_not_le fun hge => ?_
        have e : K = m := by omega
        rw [e] at hlt
        omega
      exact kid_gt hks hkm K (by omega) hKlt) hs
  rw [← hcnt]
  refine hany.mono fun e w' ⟨he, hbw⟩ => ⟨he, ?_⟩
  exact h4.trans ((hb.mono h4.size).trans (hbw.mono (by have := h4.size; simp; omega)))

set_option maxHeartbeats 400000 in
theorem zzbelow (u : Option Addr) (b : ByteArray) (inc : Bool) (v : Int) (B : Nat) (w0 w : World) (h : Calls Try.prog 24 #[.pointer u, .string b, .bool inc] w fun e w' => e = .returned (.int .i64 v) ∧ Below B w0 w') :
    Calls Try.prog 21 #[.pointer u, .string b, .bool inc] w fun e w' => e = .returned (.int .i64 v) ∧ Below B w0 w' := by
  have HH : Hid _ := h
  clear h
  go_enter Try.func21, Try.ntmps21
  go_wp2_with fail
  refine Calls.mono HH.out ?_
  rintro e w1 ⟨rfl, hb1⟩
  clear HH
  go_wp2_with fail
  go_ret
  exact ⟨rfl, hb1⟩

theorem want_skip (zs : Nat → Int) (c : Nat → Bool) (k : Nat) (h : ¬ (zs k = 0 ∧ c k = true)) : wantTo zs c (k + 1) = wantTo zs c k := by
  rw [wantTo, if_neg h]; rfl
theorem want_take (zs : Nat → Int) (c : Nat → Bool) (k : Nat) (h : zs k = 0 ∧ c k = true) : wantTo zs c (k + 1) = wantTo zs c k + 1 := by
  rw [wantTo, if_pos h]

end Go.Proofs.Qxb6609485a
