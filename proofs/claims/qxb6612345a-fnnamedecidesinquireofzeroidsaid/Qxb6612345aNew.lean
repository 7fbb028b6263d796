import Derived.Test.Qxb6612345aBase
namespace Go.Proofs.Qxb6612345a
open Go.RowKit Go.MuLone

/-- What lies at a coordinator as New made it. -/
structure Fresh (w : World) (b : Nat) (s : ByteArray) (m : Nat) : Prop where
  lt : b < w.heap.size
  name : w.cell? ⟨b, 0, none⟩ = some (.string s)
  mu : w.cell? ⟨b, 10, none⟩ = some (.int .i32 0)
  froz : w.frozen? ⟨b, 10, none⟩ = false
  begun : w.cell? ⟨b, 12, none⟩ = some (.map (some m))
  decided : w.cell? ⟨b, 13, none⟩ = some (.map (some (m + 1)))
  doubts : w.cell? ⟨b, 15, none⟩ = some (.map (some (m + 3)))
  lost : w.cell? ⟨b, 18, none⟩ = some (.bool false)
  kept : w.cell? ⟨b, 20, none⟩ = some (.map (some (m + 7)))
  h0 : w.heap[m]? = some (.map #[] 0)
  h1 : w.heap[m + 1]? = some (.map #[] 0)
  h3 : w.heap[m + 3]? = some (.map #[] 0)
  h7 : w.heap[m + 7]? = some (.map #[] 0)

theorem heap_new (w : World) (o : Obj) (n : Nat) (h : n = w.heap.size) : (w.alloc o).heap[n]? = some o := by
  subst h; show (w.heap.push o)[w.heap.size]? = some o; simp
theorem heap_old (w : World) (o : Obj) (n : Nat) (h : n < w.heap.size) : (w.alloc o).heap[n]? = w.heap[n]? := Below.heap_alloc w o n h
theorem cell_newest (W : World) (cs : Array Value) (t : TypeId) (n : Nat) (hn : n = W.heap.size) (j : Nat) : (W.alloc (.cells cs t)).cell? ⟨n, j, none⟩ = cs[j]? := by
  subst hn; simp
theorem froz_newest (W : World) (cs : Array Value) (t : TypeId) (n : Nat) (hn : n = W.heap.size) (j : Nat) : (W.alloc (.cells cs t)).frozen? ⟨n, j, none⟩ = false := by
  subst hn; simp

set_option maxRecDepth 100000 in
set_option maxHeartbeats 1600000 in
theorem new_any (s : ByteArray) (w : World) :
    Calls Try.prog 5 #[.string s, .map none, .pointer none, .agg #[.int .i64 1, .int .i64 1]] w fun e w' =>
      ∃ b m, e = .returned (.pointer (some ⟨b, 0, none⟩)) ∧ Fresh w' b s m ∧ w.heap.size ≤ b ∧ m + 7 < b ∧ Below w.heap.size w w' := by
  have hmk : ∀ t W, (Instr.makeMap t none).run Try.prog W = .ok (.map (some W.heap.size)) (W.alloc (.map #[] 0)) := fun t W => run_makeMap t W
  go_enter Try.func5, Try.ntmps5
  go_wp2_with fail
  go_ret
  refine ⟨w.heap.size + 9, w.heap.size + 1, rfl, ⟨by simp, (cell_newest _ _ _ _ (by simp) _).trans rfl, (cell_newest _ _ _ _ (by simp) _).trans rfl, froz_newest _ _ _ _ (by simp) _, (cell_newest _ _ _ _ (by simp) _).trans rfl, (cell_newest _ _ _ _ (by simp) _).trans rfl, (cell_newest _ _ _ _ (by simp) _).trans rfl, (cell_newest _ _ _ _ (by simp) _).trans rfl, (cell_newest _ _ _ _ (by simp) _).trans rfl, ?_, ?_, ?_, ?_⟩, by omega, by omega, ?_⟩
  iterate 4
    · repeat (first | (refine heap_new _ _ _ ?_; simp; done) | refine (heap_old _ _ _ (by simp <;> omega)).trans ?_)
  · repeat (first | exact Below.refl _ _ | refine Below.alloc ?_ (by simp <;> omega) _)
end Go.Proofs.Qxb6612345a
