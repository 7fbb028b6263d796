import Derived.Test.Qxb6609485aKids
import Derived.Test.Qxb6609485aMono
namespace Go.Proofs.Qxb6609485a
open Go.RowKit
open Go.Lib (compareBytes)

/-- What a binary search finds. -/
structure Spec (n : Nat) (ord : Nat → Int) (i : Nat) (f : Bool) : Prop where
  le : i ≤ n
  lo : ∀ j, j < i → ord j < 0
  hi : ∀ j, i ≤ j → j < n → 0 ≤ ord j
  fd : f = true ↔ i < n ∧ ord i = 0
theorem Spec.unique {n : Nat} {ord : Nat → Int} {i i' : Nat} {f f' : Bool} (h : Spec n ord i f) (h' : Spec n ord i' f') : i' = i ∧ f' = f := by
  have e : i' = i := by
    rcases Nat.lt_trichotomy i i' with hlt | heq | hgt
    · have h1 := h'.lo i hlt
      have h2 := h.hi i (Nat.le_refl _) (by have := h'.le; omega)
      omega
    · exact heq.symm
    · have h1 := h.lo i' hgt
      have h2 := h'.hi i' (Nat.le_refl _) (by have := h.le; omega)
      omega
  subst e
  refine ⟨rfl, ?_⟩
  have := h.fd.trans h'.fd.symm
  cases f <;> cases f' <;> simp_all
theorem first_pos (ord : Nat → Int) : ∀ n, ∃ i, i ≤ n ∧ (∀ j, j < i → ord j < 0) ∧ (i < n → 0 ≤ ord i)
  | 0 => ⟨0, Nat.le_refl _, fun j hj => by omega, fun h => by omega⟩
  | n + 1 => by
    obtain ⟨i, h1, h2, h3⟩ := first_pos ord n
    by_cases hi : i < n
    · exact ⟨i, by omega, h2, fun _ => h3 hi⟩
    · have e : i = n := by omega
      subst e
      by_cases ho : ord i < 0
      · refine ⟨i + 1, Nat.le_refl _, fun j hj => ?_, fun h => by omega⟩
        by_cases ej : j = i
        · rw [ej]; exact ho
        · exact h2 j (by omega)
      · exact ⟨i, by omega, h2, fun _ => by omega⟩
theorem spec_some (n : Nat) (ord : Nat → Int) (hmono : ∀ i j, i < j → j < n → 0 ≤ ord i → 0 < ord j) : ∃ i f, Spec n ord i f := by
  obtain ⟨i, h1, h2, h3⟩ := first_pos ord n
  refine ⟨i, decide (i < n ∧ ord i = 0), h1, h2, fun j hj hn => ?_, by simp⟩
  by_cases e : j = i
  · rw [e]; exact h3 (by omega)
  · exact Int.le_of_lt (hmono i j (by omega) hn (h3 (by omega)))

theorem search' (a : Option Addr) (n cap : Nat) (ss : Nat → ByteArray) (Ls : Nat → Value) (b : ByteArray) (w : World) (hn : n ≤ 1048576) (hd : Docs w a n ss Ls)
    (hmono : ∀ i j, i < j → j < n → 0 ≤ ordAt ss b i → 0 < ordAt ss b j) (i : Nat) (f : Bool) (hs : Spec n (ordAt ss b) i f) :
    Calls Try.prog 28 #[.slice a n cap, keyV b, .func (.func 23) #[] #[]] w fun e w' => e = .returned (.tuple #[.int .i64 i, .bool f]) ∧ Below w.heap.size w w' := by
  refine (search a n cap ss Ls b w hn hd hmono).mono ?_
  rintro e w' ⟨i', f', rfl, h1, h2, h3, h4, hb⟩
  obtain ⟨rfl, rfl⟩ := hs.unique ⟨h1, h2, h3, h4⟩
  exact ⟨rfl, hb⟩
theorem searchKids' (a : Option Addr) (n cap : Nat) (Ps : Nat → Value) (ms : Nat → Int) (ss : Nat → ByteArray) (b : ByteArray) (w : World) (hn : n ≤ 1048576) (hd : Kids w a n Ps ms ss)
    (hmono : ∀ i j, i < j → j < n → 0 ≤ ordAt ss b i → 0 < ordAt ss b j) (i : Nat) (f : Bool) (hs : Spec n (ordAt ss b) i f) :
    Calls Try.prog 32 #[.slice a n cap, keyV b, .func (.func 33) #[] #[]] w fun e w' => e = .returned (.tuple #[.int .i64 i, .bool f]) ∧ Below w.heap.size w w' := by
  refine (searchKids a n cap ss Ps ms b w hn hd hmono).mono ?_
  rintro e w' ⟨i', f', rfl, h1, h2, h3, h4, hb⟩
  obtain ⟨rfl, rfl⟩ := hs.unique ⟨h1, h2, h3, h4⟩
  exact ⟨rfl, hb⟩

theorem Docs.below {w w' : World} {a : Option Addr} {n : Nat} {ss : Nat → ByteArray} {Ls : Nat → Value} (h : Docs w a n ss Ls) (k : Below w.heap.size w w') : Docs w' a n ss Ls := by
  intro i hi
  obtain ⟨g, off, rfl, hg, c0, c1, c2, c3, c4, c5⟩ := h i hi
  exact ⟨g, off, rfl, Nat.lt_of_lt_of_le hg k.size, (k.cell hg).trans c0, (k.cell hg).trans c1, (k.cell hg).trans c2, (k.cell hg).trans c3, (k.cell hg).trans c4, (k.cell hg).trans c5⟩
theorem Kids.below {w w' : World} {a : Option Addr} {n : Nat} {Ps : Nat → Value} {ms : Nat → Int} {ss : Nat → ByteArray} (h : Kids w a n Ps ms ss) (k : Below w.heap.size w w') : Kids w' a n Ps ms ss := by
  intro i hi
  obtain ⟨g, off, rfl, hg, c0, c1, c2, c3⟩ := h i hi
  exact ⟨g, off, rfl, Nat.lt_of_lt_of_le hg k.size, (k.cell hg).trans c0, (k.cell hg).trans c1, (k.cell hg).trans c2, (k.cell hg).trans c3⟩

/-- Which child. -/
def childOf (i : Nat) (f : Bool) : Nat := if f then i + 1 else i

set_option maxHeartbeats 1000000 in
theorem child (nb g off m cap : Nat) (Ps : Nat → Value) (ms : Nat → Int) (ss : Nat → ByteArray) (b : ByteArray) (w : World) (hm : 1 ≤ m) (hn : m ≤ 1048576) (hcap : m < cap)
    (hnb : nb < w.heap.size) (hc : w.cell? ⟨nb, 2, none⟩ = some (.slice (some ⟨g, off, none⟩) (m + 1) cap))
    (hd : Kids w (some ⟨g, off + 4, none⟩) m Ps ms ss)
    (hmono : ∀ i j, i < j → j < m → 0 ≤ ordAt ss b i → 0 < ordAt ss b j) (i : Nat) (f : Bool) (hs : Spec m (ordAt ss b) i f) :
    Calls Try.prog 27 #[.pointer (some ⟨nb, 0, none⟩), keyV b] w fun e w' => e = .returned (.int .i64 (childOf i f : Nat)) ∧ Below w.heap.size w w' := by
  go_enter Try.func27, Try.ntmps27
  go_wp2_with fail
  have kne := kinNe (w.alloc (.cells #[.int .u64 (head b : Nat), .string b] 40))
  have k0 : ∀ p : Kin (w.alloc (.cells #[.int .u64 (head b : Nat), .string b] 40)), p.at'.cell? ⟨w.heap.size, 0, none⟩ = some (.int .u64 (head b : Nat)) := Kin.cell (by simp) (by simp)
  have k1 : ∀ p : Kin (w.alloc (.cells #[.int .u64 (head b : Nat), .string b] 40)), p.at'.cell? ⟨w.heap.size, 1, none⟩ = some (.string b) := Kin.cell (by simp) (by simp)
  have k2 : ∀ p : Kin (w.alloc (.cells #[.int .u64 (head b : Nat), .string b] 40)), p.at'.cell? ⟨nb, 2, none⟩ = some (.slice (some ⟨g, off, none⟩) (m + 1) cap) := Kin.cell (by simp; omega) ((World.cell?_alloc_lt _ _ _ hnb).trans hc)
  refine wp_region_kin (by kernel_rfl) (by kernel_rfl) ?_
  have HD : Hid (∀ p : Kin (w.alloc (.cells #[.int .u64 (head b : Nat), .string b] 40)), Kids p.at' (some ⟨g, off + 4, none⟩) m Ps ms ss) := fun p => hd.below (((Below.refl _ w).alloc (Nat.le_refl _) _).trans (p.below.mono (by simp)))
  repeat (first | go_big_quiet_step ((go_at_call 32; exact kin_of (searchKids' _ _ _ Ps ms ss b _ hn (HD.out _) hmono i f hs))) | quiet_step ((go_at_call 32; exact kin_of (searchKids' _ _ _ Ps ms ss b _ hn (HD.out _) hmono i f hs))))
  refine wpQuiet_nil ?_
  intro w1 hw
  obtain ⟨p, hw⟩ := hw
  have hb1 := p.below
  rw [← hw] at hb1
  clear hw HD k0 k1 k2
  have hb2 : Below w.heap.size w w1 := ((Below.refl _ w).alloc (Nat.le_refl _) _).trans (hb1.mono (by simp))
  clear hb1
  have hi := hs.le
  cases f
  · go_wp2
    go_ret
    exact ⟨rfl, hb2⟩
  · go_wp2
    go_ret
    exact ⟨rfl, hb2⟩
end Go.Proofs.Qxb6609485a
