import Derived.Test.Qxb6609544aDoorQ
namespace Go.Proofs.Qxb6609544aDoor
open Go.RowKit

set_option maxRecDepth 100000 in
set_option maxHeartbeats 1000000 in
theorem ascending0 (a : Option Addr) (cap : Nat) (w : World) : Calls Tryd.prog 28 #[.slice a 0 cap] w fun e w' => e = .returned (.bool true) ∧ Bel w w' := by
  go_enter Tryd.func28, Tryd.ntmps28
  go_wp2_with fail
  refine wp_loop_rounds 1 ?_
  rw [rounds_succ]
  go_wp2_with fail
  go_ret
  exact ⟨rfl, Bel.refl _⟩
theorem flatR_get : ∀ (L : List (Int × Int)) (i : Nat) (h : i < L.length) (c : Nat), c < 8 → (flatR L)[i * 8 + c]? = (encR L[i])[c]?
  | x :: L, 0, _, c, hc => by
    simp only [flatR, List.flatMap_cons, Nat.zero_mul, Nat.zero_add, List.getElem_cons_zero]
    rw [List.getElem?_append_left (by simpa using hc)]
  | x :: L, i + 1, h, c, hc => by
    have ih := flatR_get L i (by simpa using h) c hc
    simp only [flatR, List.flatMap_cons, List.getElem_cons_succ] at *
    rw [List.getElem?_append_right (by simp; omega), ← ih]
    congr 1
    simp; omega
/-- The row that walk leaves, read as ranges. -/
theorem owns_rngs {w : World} {B g n cap : Nat} {L : List (Int × Int)} (ho : w.ownsRow B 37 8 (.slice (some ⟨g, 0, none⟩) n cap) n (flatR L)) : Rngs w g 0 L := by
  have hlt := (ho.lt g rfl).2
  refine ⟨hlt, fun i hi c hc => ?_⟩
  have h1 := flatR_get L i hi c hc
  have h2 : (encR L[i])[c]? = some ((encR L[i])[c]'(by simpa using hc)) := List.getElem?_eq_getElem _
  rw [h2] at h1 ⊢
  have h3 := ho.cells (g := g) rfl _ _ h1
  rw [Addr.add_lit] at h3
  rw [show 0 + i * 8 + c = 0 + (i * 8 + c) from by omega]
  exact h3
/-- ascending at what walk leaves. -/
theorem ascendingR (B n : Nat) (v : Value) (L : List (Int × Int)) (w : World) (ho : w.ownsRow B 37 8 v n (flatR L)) (hL : L.length = n) (hn : (n : Int) ≤ 1000000) (hx : ∀ x ∈ L, Okx x) (hs : Srt L) :
    Calls Tryd.prog 28 #[v] w fun e w' => e = .returned (.bool true) ∧ Bel w w' := by
  rcases ho.2 with ⟨rfl, rfl⟩ | ⟨g, cap, cur, rfl, _⟩
  · exact ascending0 none 0 w
  · exact ascending g 0 n cap L w hL hn (owns_rngs ho) hx hs
end Go.Proofs.Qxb6609544aDoor
