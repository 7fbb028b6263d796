import Derived.Test.Qxb6609485aBelow
namespace Go.Proofs.Qxb6609485a
open Go.RowKit
open Go.Lib (compareBytes)

/-! ### Rows of cells -/
def rowOf (f : Nat → List Value) : Nat → List Value
  | 0 => []
  | n + 1 => rowOf f n ++ f n
theorem rowOf_length (f : Nat → List Value) (k : Nat) (hk : ∀ i, (f i).length = k) : ∀ n, (rowOf f n).length = n * k
  | 0 => by simp [rowOf]
  | n + 1 => by rw [rowOf, List.length_append, rowOf_length f k hk n, hk, Nat.add_mul, Nat.one_mul]
theorem rowOf_get (f : Nat → List Value) (k : Nat) (hk : ∀ i, (f i).length = k) : ∀ (n i j : Nat), i < n → j < k → (rowOf f n)[i * k + j]? = (f i)[j]?
  | n + 1, i, j, hi, hj => by
    rw [rowOf]
    by_cases e : i = n
    · subst e
      rw [List.getElem?_append_right (by rw [rowOf_length f k hk]; omega), rowOf_length f k hk]
      congr 1; omega
    · rw [List.getElem?_append_left, rowOf_get f k hk n i j (by omega) hj]
      rw [rowOf_length f k hk]
      have : (i + 1) * k ≤ n * k := Nat.mul_le_mul_right k (by omega)
      rw [Nat.add_mul, Nat.one_mul] at this
      omega
theorem rowOf_congr (f g : Nat → List Value) : ∀ n, (∀ i, i < n → f i = g i) → rowOf f n = rowOf g n
  | 0, _ => rfl
  | n + 1, h => by rw [rowOf, rowOf, rowOf_congr f g n (fun i hi => h i (by omega)), h n (by omega)]

def docCells (ss : Nat → ByteArray) (Ls : Nat → Value) (i : Nat) : List Value := [.int .u64 (head (ss i) : Nat), .string (ss i), Ls i, .slice none 0 0, .int .i64 0, .int .u64 0]
def kidCells (lps : Nat → Nat) (ms : Nat → Nat) (ks : Nat → ByteArray) (i : Nat) : List Value := [.pointer (some ⟨lps i, 0, none⟩), .int .i64 (ms i : Nat), .int .u64 (head (ks i) : Nat), .string (ks i)]

/-! ### What is kept -/
/-- All blocks of cells but those that bear the tag T are as they were. -/
structure Kept (T : TypeId) (w w' : World) : Prop where
  size : w.heap.size ≤ w'.heap.size
  block : ∀ (k : Nat) (c : Array Value) (t : TypeId) (fr : Nat × Nat), w.heap[k]? = some (Obj.cells c t fr) → t ≠ T → w'.heap[k]? = w.heap[k]?
theorem Kept.of_below {T : TypeId} {w w' : World} (h : Below w.heap.size w w') : Kept T w w' :=
  ⟨h.size, fun k _ _ _ hk _ => h.block k (Array.getElem?_eq_some_iff.1 hk).1⟩
theorem Kept.of_grown {T : TypeId} {w w' : World} {base size n : Nat} {v : Value} {xs : List Value} (ho : w.ownsRow base T size v n xs) (hg : w.grownBy w' v.ownBlock) : Kept T w w' := by
  refine ⟨hg.size, fun k c t fr hk ht => hg.block k (Array.getElem?_eq_some_iff.1 hk).1 fun e => ht ?_⟩
  rcases ho.2 with ⟨rfl, _⟩ | ⟨g, cap, cur, rfl, _, hh, _⟩
  · simp [Value.ownBlock] at e
  · simp [Value.ownBlock] at e
    subst e
    rw [hh] at hk
    simp at hk
    exact hk.2.1.symm
theorem Kept.trans {T : TypeId} {a b c : World} (h : Kept T a b) (k : Kept T b c) : Kept T a c :=
  ⟨Nat.le_trans h.size k.size, fun i x t fr hi ht => by
    have h1 := h.block i x t fr hi ht
    exact (k.block i x t fr (h1.trans hi) ht).trans h1⟩

theorem grown_of_below {w w' : World} (h : Below w.heap.size w w') : w.grownBy w' none := ⟨h.os, h.tape, h.output, h.size, fun k hk _ => h.block k hk⟩
theorem owns_below {w w' : World} {base size n : Nat} {e : TypeId} {v : Value} {xs : List Value} (ho : w.ownsRow base e size v n xs) (h : Below w.heap.size w w') : w'.ownsRow base e size v n xs :=
  ho.kept (grown_of_below h) (by cases hv : v.ownBlock <;> simp)

/-! ### Lines -/
def LineH (w : World) (L : Value) : Option Bool → Prop
  | none => L = .slice none 0 0
  | some d => ∃ lb, L = .slice (some ⟨lb, 0, none⟩) 1 1 ∧ w.heap[lb]? = some (.cells #[.slice none 0 0, .string ⟨#[49, 45, 97]⟩, .bool d, .slice none 0 0] 63 (0, 0))
theorem LineH.line {w : World} {L : Value} {d : Option Bool} (h : LineH w L d) : Line w L d := by
  cases d with
  | none => exact h
  | some d =>
    obtain ⟨lb, rfl, hb⟩ := h
    exact ⟨lb, rfl, (Array.getElem?_eq_some_iff.1 hb).1, by simp [World.cell?, hb], by simp [World.cell?, hb], by simp [World.cell?, hb], by simp [World.cell?, hb]⟩
theorem LineH.kept {T : TypeId} {w w' : World} {L : Value} {d : Option Bool} (h : LineH w L d) (k : Kept T w w') (hT : (63 : TypeId) ≠ T) : LineH w' L d := by
  cases d with
  | none => exact h
  | some d =>
    obtain ⟨lb, rfl, hb⟩ := h
    exact ⟨lb, rfl, (k.block lb _ _ _ hb hT).trans hb⟩
theorem LineH.one {w : World} {L : Value} {d : Option Bool} (h : LineH w L d) : L.oneCell' = true := by
  cases d with
  | none => rw [show L = _ from h]; rfl
  | some d => obtain ⟨lb, rfl, _⟩ := h; rfl

/-! ### Leaves -/
structure LeafH (w : World) (p n : Nat) (v : Value) (ss : Nat → ByteArray) (Ls : Nat → Value) (ds : Nat → Option Bool) : Prop where
  node : w.heap[p]? = some (.cells #[.int .u64 0, v, .slice none 0 0] 59 (0, 0))
  row : ∃ g cap cur, v = .slice (some ⟨g, 0, none⟩) n cap ∧ w.heap[g]? = some (.cells cur 46 (0, 0)) ∧ n ≤ cap ∧ cur.toList.take (n * 6) = rowOf (docCells ss Ls) n
  line : ∀ i, i < n → LineH w (Ls i) (ds i)
theorem LeafH.kept {T : TypeId} {w w' : World} {p n : Nat} {v : Value} {ss : Nat → ByteArray} {Ls : Nat → Value} {ds : Nat → Option Bool} (h : LeafH w p n v ss Ls ds) (k : Kept T w w') (h1 : (59 : TypeId) ≠ T) (h2 : (46 : TypeId) ≠ T) (h3 : (63 : TypeId) ≠ T) : LeafH w' p n v ss Ls ds := by
  obtain ⟨g, cap, cur, hv, hg, hc, hr⟩ := h.row
  exact ⟨(k.block p _ _ _ h.node h1).trans h.node, ⟨g, cap, cur, hv, (k.block g _ _ _ hg h2).trans hg, hc, hr⟩, fun i hi => (h.line i hi).kept k h3⟩
theorem cell_of_row {w : World} {g k n i j : Nat} {cur : Array Value} {T : TypeId} {fr : Nat × Nat} {f : Nat → List Value} {u : Value} (hg : w.heap[g]? = some (.cells cur T fr)) (hr : cur.toList.take (n * k) = rowOf f n) (hk : ∀ i, (f i).length = k)
    (hi : i < n) (hj : j < k) (hu : (f i)[j]? = some u) : w.cell? ⟨g, 0 + i * k + j, none⟩ = some u := by
  have h1 := rowOf_get f k hk n i j hi hj
  rw [← hr, hu, List.getElem?_take] at h1
  split at h1
  · simp only [World.cell?, hg, Nat.zero_add]
    simpa using h1
  · simp at h1
theorem LeafH.leaf {w : World} {p n : Nat} {v : Value} {ss : Nat → ByteArray} {Ls : Nat → Value} {ds : Nat → Option Bool} (h : LeafH w p n v ss Ls ds) :
    ∃ g cap, v = .slice (some ⟨g, 0, none⟩) n cap ∧ n ≤ cap ∧ Leaf w p g 0 n cap ss Ls ds := by
  obtain ⟨g, cap, cur, rfl, hg, hc, hr⟩ := h.row
  have hk : ∀ i, (docCells ss Ls i).length = 6 := fun _ => rfl
  have hn := h.node
  refine ⟨g, cap, rfl, hc, (Array.getElem?_eq_some_iff.1 hn).1, by simp [World.cell?, hn], by simp [World.cell?, hn], by simp [World.cell?, hn], fun i hi => ?_, fun i hi => (h.line i hi).line⟩
  exact ⟨g, 0, rfl, (Array.getElem?_eq_some_iff.1 hg).1, cell_of_row hg hr hk hi (j := 0) (by decide) rfl, cell_of_row hg hr hk hi (j := 1) (by decide) rfl, cell_of_row hg hr hk hi (j := 2) (by decide) rfl,
    cell_of_row hg hr hk hi (j := 3) (by decide) rfl, cell_of_row hg hr hk hi (j := 4) (by decide) rfl, cell_of_row hg hr hk hi (j := 5) (by decide) rfl⟩

/-! ### Inner nodes -/
theorem inner_of {w : World} {p m base : Nat} {v : Value} {lps ms : Nat → Nat} {ks : Nat → ByteArray} (hn : w.heap[p]? = some (.cells #[.int .u64 0, .slice none 0 0, v] 59 (0, 0)))
    (ho : w.ownsRow base 50 4 v (m + 1) (rowOf (kidCells lps ms ks) (m + 1))) (hm : 1 ≤ m) : ∃ g cap, Inner w p g 0 m cap (fun i => .pointer (some ⟨lps i, 0, none⟩)) ms ks := by
  rcases ho.2 with ⟨_, h0⟩ | ⟨g, cap, cur, rfl, _, hg, hc, _, _, hr⟩
  · omega
  · have hk : ∀ i, (kidCells lps ms ks i).length = 4 := fun _ => rfl
    refine ⟨g, cap, (Array.getElem?_eq_some_iff.1 hn).1, by simp [World.cell?, hn], fun i hi => ?_, by omega, hm, fun i _ => ⟨_, rfl⟩⟩
    exact ⟨g, 0, rfl, (Array.getElem?_eq_some_iff.1 hg).1, cell_of_row hg hr hk hi (j := 0) (by decide) rfl, cell_of_row hg hr hk hi (j := 1) (by decide) rfl, cell_of_row hg hr hk hi (j := 2) (by decide) rfl, cell_of_row hg hr hk hi (j := 3) (by decide) rfl⟩

end Go.Proofs.Qxb6609485a
