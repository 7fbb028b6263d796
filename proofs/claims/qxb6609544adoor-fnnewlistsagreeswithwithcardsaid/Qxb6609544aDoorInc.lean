import Derived.Test.Qxb6609544aDoorLists
import Derived.Test.Qxb6609544aDoorHolds
import Derived.Test.Qxb6609544aDoorSet
namespace Go.Proofs.Qxb6609544aDoor
open Go.RowKit

/-- Lists that hold the entries A and D. -/
def Inc (zp : Addr) (w : World) (ib : Nat) (A D : List (Int × Int)) : Prop :=
  ∃ a d : Tr, Slot w ib #[.pointer (pa a), .pointer (pa d)] ∧ In zp w a ∧ In zp w d ∧ Bal a ∧ Bal d ∧ Srt (lst a) ∧ Srt (lst d) ∧ (∀ x, x ∈ lst a ↔ x ∈ A) ∧ (∀ x, x ∈ lst d ↔ x ∈ D) ∧ (lst a).length ≤ A.length ∧ (lst d).length ≤ D.length
theorem Inc.below {zp : Addr} {w w' : World} {ib : Nat} {A D : List (Int × Int)} (h : Inc zp w ib A D) (k : RowKit.Below w.heap.size w w') : Inc zp w' ib A D := by
  obtain ⟨a, d, h1, h2, h3, h4⟩ := h
  exact ⟨a, d, h1.below k, h2.below k, h3.below k, h4⟩
theorem none_of {L : List (Int × Int)} (h : ∀ x, x ∈ L ↔ x ∈ ([] : List (Int × Int))) : L = [] := List.eq_nil_iff_forall_not_mem.2 fun x hx => absurd ((h x).1 hx) (by simp)
theorem incNew (zp : Addr) (w : World) (hz : Zed w zp) :
    Calls Tryd.prog 9 #[.slice none 0 0, .slice none 0 0] w fun e w' => ∃ ib, e = .returned (.pointer (some ⟨ib, 0, none⟩)) ∧ Inc zp w' ib [] [] ∧ RowKit.Below w.heap.size w w' := by
  refine (newLists zp none none 0 0 0 0 [] [] w hz ⟨rfl, Or.inl ⟨rfl, rfl, rfl⟩⟩ ⟨rfl, Or.inl ⟨rfl, rfl, rfl⟩⟩ (by decide) (by decide) (fun x hx => absurd hx (by simp)) (fun x hx => absurd hx (by simp))).mono ?_
  rintro e w' ⟨lb, t, s, rfl, hs, ⟨t1, t2, t3, t4, t5⟩, ⟨s1, s2, s3, s4, _⟩⟩
  exact ⟨lb, rfl, ⟨t, s, hs, t1, s1, t2, s2, t3, s3, t4, s4, by rw [none_of t4]; exact Nat.le_refl _, by rw [none_of s4]; exact Nat.le_refl _⟩, t5⟩
theorem incA (zp : Addr) (x : Int × Int) (ib : Nat) (A D : List (Int × Int)) (w : World) (hz : Zed w zp) (h : Inc zp w ib A D) (hx : Okx x) (hA : A.length < 400000000) :
    Calls Tryd.prog 16 #[.pointer (some ⟨ib, 0, none⟩), .string (nm true), entV zp x.1 x.2] w fun e w' => ∃ nb, e = .returned (.pointer (some ⟨nb, 0, none⟩)) ∧ Inc zp w' nb (A ++ [x]) D ∧ RowKit.Below w.heap.size w w' := by
  obtain ⟨a, d, h1, h2, h3, h4, h5, h6, h7, h8, h9, h10, h11⟩ := h
  refine (withA zp x hx ib a d w hz h1 h2 h4 h6 (by rw [← siz_lst]; omega)).mono ?_
  rintro e w' ⟨nb, t1, rfl, hs, k1, k2, k3, k4⟩
  refine ⟨nb, rfl, ⟨t1, d, hs, k1, h3.bel k4, k2, h5, by rw [k3]; exact insE_srt h6, h7, fun y => ?_, h9, ?_, h11⟩, k4.below⟩
  · rw [k3, insE_mem, h8]; simp; exact Or.comm
  · rw [k3]; have := (insE_len x (lst a)).2; simp; omega
theorem incD (zp : Addr) (x : Int × Int) (ib : Nat) (A D : List (Int × Int)) (w : World) (hz : Zed w zp) (h : Inc zp w ib A D) (hx : Okx x) (hD : D.length < 400000000) :
    Calls Tryd.prog 16 #[.pointer (some ⟨ib, 0, none⟩), .string (nm false), entV zp x.1 x.2] w fun e w' => ∃ nb, e = .returned (.pointer (some ⟨nb, 0, none⟩)) ∧ Inc zp w' nb A (D ++ [x]) ∧ RowKit.Below w.heap.size w w' := by
  obtain ⟨a, d, h1, h2, h3, h4, h5, h6, h7, h8, h9, h10, h11⟩ := h
  refine (withD zp x hx ib a d w hz h1 h3 h5 h7 (by rw [← siz_lst]; omega)).mono ?_
  rintro e w' ⟨nb, t1, rfl, hs, k1, k2, k3, k4⟩
  refine ⟨nb, rfl, ⟨a, t1, hs, h2.bel k4, k1, h4, k2, h6, by rw [k3]; exact insE_srt h7, h8, fun y => ?_, h10, ?_⟩, k4.below⟩
  · rw [k3, insE_mem, h9]; simp; exact Or.comm
  · rw [k3]; have := (insE_len x (lst d)).2; simp; omega
/-- The six cells of the i-th entry. -/
theorem Ents.six {zp : Addr} {w : World} {g off : Nat} {L : List (Int × Int)} (h : Ents zp w g off L) {i : Nat} (hi : i < L.length) {x : Int × Int} (hx : L[i] = x) :
    w.cell? ⟨g, off + i * 6, none⟩ = some (.int .u64 0) ∧ w.cell? ⟨g, off + i * 6 + 1, none⟩ = some (.int .u64 (low x.1)) ∧ w.cell? ⟨g, off + i * 6 + 2, none⟩ = some (.pointer (some zp)) ∧ w.cell? ⟨g, off + i * 6 + 3, none⟩ = some (.int .u64 0) ∧ w.cell? ⟨g, off + i * 6 + 4, none⟩ = some (.int .u64 (low x.2)) ∧ w.cell? ⟨g, off + i * 6 + 5, none⟩ = some (.pointer (some zp)) := by
  subst hx
  exact ⟨(h.2 i hi 0 (by omega)).trans rfl, (h.2 i hi 1 (by omega)).trans rfl, (h.2 i hi 2 (by omega)).trans rfl, (h.2 i hi 3 (by omega)).trans rfl, (h.2 i hi 4 (by omega)).trans rfl, (h.2 i hi 5 (by omega)).trans rfl⟩
end Go.Proofs.Qxb6609544aDoor
