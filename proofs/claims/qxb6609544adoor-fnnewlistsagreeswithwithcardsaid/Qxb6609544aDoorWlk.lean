import Derived.Test.Qxb6609544aDoorRng
import Derived.Test.Qxb6609544aDoorSet
import Derived.Deep.AppendLies
import Derived.Deep.RegionLaw
namespace Go.Proofs.Qxb6609544aDoor
open Go.RowKit
open Go.Deep (BT)

/-! ### What the walk over a tree leaves -/
/-- All nodes lie below B. -/
def Und (B : Nat) : Tr → Prop
  | .nil => True
  | .node b _ _ l r => b < B ∧ Und B l ∧ Und B r
theorem In.und {zp : Addr} {w : World} : ∀ {t : Tr}, In zp w t → Und w.heap.size t
  | .nil, _ => trivial
  | .node _ _ _ _ _, h => ⟨h.2.1, In.und h.2.2.2.2.1, In.und h.2.2.2.2.2⟩
theorem In.keep {zp : Addr} {B : Nat} {w w' : World} (k : Below B w w') : ∀ {t : Tr}, Und B t → In zp w t → In zp w' t
  | .nil, _, _ => trivial
  | .node b _ _ _ _, u, h => ⟨⟨h.1.1, by obtain ⟨t, ht⟩ := h.1.2; exact ⟨t, (k.block b u.1).trans ht⟩⟩, Nat.lt_of_lt_of_le h.2.1 k.size, fun j => (k.cell (p := ⟨b, j, none⟩) u.1).trans (h.2.2.1 j), h.2.2.2.1, In.keep k u.2.1 h.2.2.2.2.1, In.keep k u.2.2 h.2.2.2.2.2⟩
/-- The reach, of no tree nought. -/
def rz (t : Tr) : Int := mx (rch t) 0
def flatR (L : List (Int × Int)) : List Value := L.flatMap encR
theorem flatR_len : ∀ L, (flatR L).length = L.length * 8
  | [] => rfl
  | x :: L => by
    have := flatR_len L
    simp only [flatR, List.flatMap_cons, List.length_append, List.length_cons] at *
    rw [this]; simp; omega
theorem flatR_app (A : List (Int × Int)) (x : Int × Int) : flatR (A ++ [x]) = flatR A ++ encR x := by simp [flatR]
theorem encR_one (x : Int × Int) : ∀ u ∈ encR x, u.oneCell' = true := by
  intro u hu
  simp at hu
  rcases hu with rfl | rfl | rfl | rfl | rfl | rfl | rfl | rfl <;> rfl
/-- All is kept but the variable's block s and the row that it holds. -/
structure Fr (s : Nat) (v v' : Value) (w w' : World) : Prop where
  os : w'.os = w.os
  tape : w'.tape = w.tape
  output : w'.output = w.output
  size : w.heap.size ≤ w'.heap.size
  block : ∀ k, k < w.heap.size → k ≠ s → some k ≠ v.ownBlock → w'.heap[k]? = w.heap[k]?
  own : v'.ownBlock = v.ownBlock ∨ ∀ k, v'.ownBlock = some k → w.heap.size ≤ k
theorem Fr.refl (s : Nat) (v : Value) (w : World) : Fr s v v w w := ⟨rfl, rfl, rfl, Nat.le_refl _, fun _ _ _ _ => rfl, Or.inl rfl⟩
theorem Fr.trans {s : Nat} {v v1 v2 : Value} {w w1 w2 : World} (h : Fr s v v1 w w1) (k : Fr s v1 v2 w1 w2) : Fr s v v2 w w2 := by
  refine ⟨k.os.trans h.os, k.tape.trans h.tape, k.output.trans h.output, Nat.le_trans h.size k.size, fun i hi hs hv => ?_, ?_⟩
  · refine (k.block i (Nat.lt_of_lt_of_le hi h.size) hs ?_).trans (h.block i hi hs hv)
    intro e
    rcases h.own with e1 | e1
    · exact hv (e.trans e1)
    · exact absurd (e1 i e.symm) (by omega)
  · rcases k.own with e | e
    · rcases h.own with e1 | e1
      · exact Or.inl (e.trans e1)
      · exact Or.inr fun i hi => e1 i (e.symm.trans hi)
    · exact Or.inr fun i hi => Nat.le_trans h.size (e i hi)
theorem Fr.of_below {s : Nat} {v : Value} {w w' : World} (h : Below w.heap.size w w') : Fr s v v w w' := ⟨h.os, h.tape, h.output, h.size, fun k hk _ _ => h.block k hk, Or.inl rfl⟩
theorem Fr.below {s B : Nat} {v v' : Value} {w w' : World} (h : Fr s v v' w w') (hs : B ≤ s) (hB : B ≤ w.heap.size) (hv : ∀ k, v.ownBlock = some k → B ≤ k) : Below B w w' :=
  ⟨h.os, h.tape, h.output, h.size, fun k hk => h.block k (by omega) (by omega) (fun e => absurd (hv k e.symm) (by omega))⟩
theorem Fr.slot {s k : Nat} {v v' : Value} {w w' : World} {cs : Array Value} (h : Fr s v v' w w') (c : Slot w k cs) (hs : k ≠ s) (hv : some k ≠ v.ownBlock) : Slot w' k cs := by
  have e := h.block k c.lt hs hv
  refine ⟨Nat.lt_of_lt_of_le c.lt h.size, fun j => ?_, fun j => ?_, by rw [e]; exact c.obj⟩
  · exact (World.cell?_of_block (w := w) (w' := w') (a := ⟨k, j, none⟩) e).trans (c.cell j)
  · exact (World.frozen?_of_block (w := w) (w' := w') (a := ⟨k, j, none⟩) e).trans (c.froz j)
/-- A row under a world that has kept it. -/
theorem owns_below {w w' : World} {B : Nat} {v : Value} {n : Nat} {xs : List Value} (h : w.ownsRow B 37 8 v n xs) (k : Below w.heap.size w w') : w'.ownsRow B 37 8 v n xs := by
  refine ⟨h.1, ?_⟩
  rcases h.2 with h1 | ⟨g, cap, cur, h1, h2, h3, h4⟩
  · exact Or.inl h1
  · have hlt : g < w.heap.size := by
      refine Nat.lt_of_not_le fun hh => ?_
      rw [Array.getElem?_eq_none hh] at h3
      cases h3
    exact Or.inr ⟨g, cap, cur, h1, h2, (k.block g hlt).trans h3, h4⟩
theorem owns_ne {w : World} {B s : Nat} {v u : Value} {n : Nat} {xs : List Value} (h : w.ownsRow B 37 8 v n xs) (c : Slot w s #[u]) : some s ≠ v.ownBlock := by
  intro e
  rcases h.2 with ⟨rfl, _⟩ | ⟨g, cap, cur, rfl, _, h3, _, _, h5, _⟩
  · cases e
  · obtain rfl : s = g := Option.some.inj e
    obtain ⟨t, ht⟩ := c.obj
    rw [h3] at ht
    have hc := congrArg (fun o => match o with | some (Obj.cells c _ _) => c.size | _ => 0) ht
    simp at hc
    omega

/-- What the walk over t leaves, out's variable at s holding v. -/
def Wkd (B s n : Nat) (A : List (Int × Int)) (v : Value) (t : Tr) (w w' : World) : Prop :=
  ∃ v', Slot w' s #[v'] ∧ w'.ownsRow B 37 8 v' (n + siz t) (flatR (A ++ lst t)) ∧ Fr s v v' w w'

set_option maxRecDepth 100000 in
set_option maxHeartbeats 2000000 in
theorem walk_nil (B s n : Nat) (A : List (Int × Int)) (v : Value) (w : World) (hs : Slot w s #[v]) (ho : w.ownsRow B 37 8 v n (flatR A)) :
    Calls Tryd.prog 27 #[.pointer none, .pointer (some ⟨s, 0, none⟩)] w fun e w' => e = .returned (.tuple #[.int .i64 0, .agg (by4 (rz .nil)), .bool true]) ∧ Wkd B s n A v .nil w w' := by
  have hb : Below w.heap.size w (w.alloc (.cells #[.int .u8 0, .int .u8 0, .int .u8 0, .int .u8 0] 35)) := (Below.refl _ _).alloc (Nat.le_refl _) _
  go_enter Tryd.func27, Tryd.ntmps27
  go_wp2_with fail
  refine bodyPost_ret (v := .tuple #[.int .i64 0, .agg (by4 (rz .nil)), .bool true]) (by simp [results, Tryd.results27, go_sem, by4, rz, rch, mx]) rfl ⟨rfl, v, hs.below hb, ?_, Fr.of_below hb⟩
  have := owns_below ho hb
  simpa [siz, lst] using this
end Go.Proofs.Qxb6609544aDoor
