import Derived.Test.Qxb6609485aOrd
namespace Go.Proofs.Qxb6609485a
open Go.RowKit
open Go.Lib (compareBytes)

/-- The result's slot, laid ahead of a call and written behind it: what a store into it wants. -/
theorem slot_after {w w1 : World} {cs : Array Value} {t : TypeId} (hb : Below (w.alloc (.cells cs t)).heap.size (w.alloc (.cells cs t)) w1) :
    (∀ j, w1.cell? ⟨w.heap.size, j, none⟩ = cs[j]?) ∧ (∀ j, w1.frozen? ⟨w.heap.size, j, none⟩ = false) ∧
    (∀ o j, (w1.alloc o).cell? ⟨w.heap.size, j, none⟩ = cs[j]?) ∧ (∀ o j, (w1.alloc o).frozen? ⟨w.heap.size, j, none⟩ = false) ∧ w.heap.size < w1.heap.size ∧ Below w.heap.size w w1 := by
  have hz : w.heap.size < w1.heap.size := by have := hb.size; simp at this; omega
  have c : ∀ j, w1.cell? ⟨w.heap.size, j, none⟩ = cs[j]? := fun j => (hb.cell (p := ⟨w.heap.size, j, none⟩) (by simp)).trans (by simp)
  have f : ∀ j, w1.frozen? ⟨w.heap.size, j, none⟩ = false := fun j => (hb.frozen (p := ⟨w.heap.size, j, none⟩) (by simp)).trans (by simp)
  refine ⟨c, f, fun o j => (World.cell?_alloc_lt _ _ _ hz).trans (c j), fun o j => ?_, hz, ((Below.refl _ w).alloc (Nat.le_refl _) _).trans (hb.mono (by simp))⟩
  exact (((Below.refl w1.heap.size w1).alloc (Nat.le_refl _) o).frozen (p := ⟨w.heap.size, j, none⟩) hz).trans (f j)

theorem cell_newest (W : World) (cs : Array Value) (t : TypeId) (n : Nat) (hn : n = W.heap.size) (j : Nat) : (W.alloc (.cells cs t)).cell? ⟨n, j, none⟩ = cs[j]? := by
  subst hn; simp

theorem heap_newest (W : World) (o : Obj) (n : Nat) (hn : n = W.heap.size) : (W.alloc o).heap[n]? = some o := by
  subst hn; exact heap_alloc_new _ _

/-- The lines of a document as they lie: none (every leaf purged), or one whose leaf is a deletion or not. -/
def Line (w : World) (L : Value) : Option Bool → Prop
  | none => L = .slice none 0 0
  | some d => ∃ lb, L = .slice (some ⟨lb, 0, none⟩) 1 1 ∧ lb < w.heap.size ∧ w.cell? ⟨lb, 0, none⟩ = some (.slice none 0 0) ∧ w.cell? ⟨lb, 1, none⟩ = some (.string ⟨#[49, 45, 97]⟩) ∧
      w.cell? ⟨lb, 2, none⟩ = some (.bool d) ∧ w.cell? ⟨lb, 3, none⟩ = some (.slice none 0 0)
theorem Line.below {w w' : World} {L : Value} {d : Option Bool} (h : Line w L d) (k : Below w.heap.size w w') : Line w' L d := by
  cases d with
  | none => exact h
  | some d =>
    obtain ⟨lb, rfl, hl, c0, c1, c2, c3⟩ := h
    exact ⟨lb, rfl, Nat.lt_of_lt_of_le hl k.size, (k.cell hl).trans c0, (k.cell hl).trans c1, (k.cell hl).trans c2, (k.cell hl).trans c3⟩

set_option maxHeartbeats 400000 in
theorem zzdoc (s : ByteArray) (del : Bool) (w : World) :
    Calls Try.prog 17 #[.string s, .bool del] w fun e w' => ∃ lb, e = .returned (docV s (.slice (some ⟨lb, 0, none⟩) 1 1)) ∧ Below w.heap.size w w' ∧ w'.heap[lb]? = some (.cells #[.slice none 0 0, .string ⟨#[49, 45, 97]⟩, .bool del, .slice none 0 0] 63 (0, 0)) := by
  go_enter Try.func17, Try.ntmps17
  go_wp2_with fail
  refine (keyof s _).mono ?_
  rintro e w1 ⟨rfl, hb1⟩
  obtain ⟨c1, f1, c2, f2, hz, hb2⟩ := slot_after hb1
  clear hb1
  go_wp2
  refine bodyPost_ret (v := docV s (.slice (some ⟨w1.heap.size, 0, none⟩) 1 1)) (by simp [results, Try.results17, go_sem, c1, hz]) rfl ⟨_, rfl, ?_, ?_⟩
  · refine Below.alloc ?_ (by simp; omega) _
    exact (((((hb2.setCell (Nat.le_refl _) _).setCell (Nat.le_refl _) _).setCell (Nat.le_refl _) _).setCell (Nat.le_refl _) _).setCell (Nat.le_refl _) _).setCell (Nat.le_refl _) _
  · exact heap_newest _ _ _ (by simp)

set_option maxHeartbeats 400000 in
theorem zzpurged (s : ByteArray) (w : World) :
    Calls Try.prog 18 #[.string s] w fun e w' => e = .returned (docV s (.slice none 0 0)) ∧ Below w.heap.size w w' := by
  go_enter Try.func18, Try.ntmps18
  go_wp2_with fail
  refine (keyof s _).mono ?_
  rintro e w1 ⟨rfl, hb1⟩
  obtain ⟨c1, f1, c2, f2, hz, hb2⟩ := slot_after hb1
  clear hb1
  go_wp2
  refine bodyPost_ret (v := docV s (.slice none 0 0)) (by simp [results, Try.results18, go_sem, c1]) rfl ⟨rfl, ?_⟩
  exact (((((hb2.setCell (Nat.le_refl _) _).setCell (Nat.le_refl _) _).setCell (Nat.le_refl _) _).setCell (Nat.le_refl _) _).setCell (Nat.le_refl _) _).setCell (Nat.le_refl _) _

set_option maxHeartbeats 400000 in
theorem zzchild (u : Option Addr) (m : Int) (s : ByteArray) (w : World) :
    Calls Try.prog 19 #[.pointer u, .int .i64 m, .string s] w fun e w' => e = .returned (childV (.pointer u) m s) ∧ Below w.heap.size w w' := by
  go_enter Try.func19, Try.ntmps19
  go_wp2_with fail
  refine (keyof s _).mono ?_
  rintro e w1 ⟨rfl, hb1⟩
  obtain ⟨c1, f1, c2, f2, hz, hb2⟩ := slot_after hb1
  clear hb1
  go_wp2
  refine bodyPost_ret (v := childV (.pointer u) m s) (by simp [results, Try.results19, go_sem, c1]) rfl ⟨rfl, ?_⟩
  exact (((hb2.setCell (Nat.le_refl _) _).setCell (Nat.le_refl _) _).setCell (Nat.le_refl _) _).setCell (Nat.le_refl _) _

set_option maxHeartbeats 400000 in
theorem zzleaf (a : Option Addr) (n c : Nat) (w : World) :
    Calls Try.prog 15 #[.slice a n c] w fun e w' => e = .returned (.pointer (some ⟨w.heap.size, 0, none⟩)) ∧ w' = w.alloc (.cells #[.int .u64 0, .slice a n c, .slice none 0 0] 59) := by
  go_enter Try.func15, Try.ntmps15
  go_wp2
  go_ret
  exact ⟨rfl, rfl⟩
set_option maxHeartbeats 400000 in
theorem zzinner (a : Option Addr) (n c : Nat) (w : World) :
    Calls Try.prog 20 #[.slice a n c] w fun e w' => e = .returned (.pointer (some ⟨w.heap.size, 0, none⟩)) ∧ w' = w.alloc (.cells #[.int .u64 0, .slice none 0 0, .slice a n c] 59) := by
  go_enter Try.func20, Try.ntmps20
  go_wp2
  go_ret
  exact ⟨rfl, rfl⟩
set_option maxHeartbeats 400000 in
theorem zztree (u : Option Addr) (m : Int) (w : World) :
    Calls Try.prog 13 #[.pointer u, .int .i64 m] w fun e w' => e = .returned (.pointer (some ⟨w.heap.size, 0, none⟩)) ∧ w' = w.alloc (.cells #[.pointer u, .int .i64 m, .int .u64 0] 57) := by
  go_enter Try.func13, Try.ntmps13
  go_wp2
  go_ret
  exact ⟨rfl, rfl⟩

/-! ### counts(false) -/
set_option maxHeartbeats 400000 in
theorem counts_none (w : World) :
    Calls Try.prog 29 #[.agg #[.slice none 0 0, .slice none 0 0, .int .i64 0, .int .u64 0], .bool false] w fun e w' => e = .returned (.int .i64 0) ∧ Below w.heap.size w w' := by
  go_enter Try.func29, Try.ntmps29
  go_wp2
  go_ret
  exact ⟨rfl, ((Below.refl _ _).alloc (Nat.le_refl _) _).alloc (by simp) _⟩
set_option maxHeartbeats 400000 in
theorem exists_one (lb : Nat) (w : World) :
    Calls Try.prog 34 #[.agg #[.slice (some ⟨lb, 0, none⟩) 1 1, .slice none 0 0, .int .i64 0, .int .u64 0]] w fun e w' => e = .returned (.bool true) ∧ Below w.heap.size w w' := by
  go_enter Try.func34, Try.ntmps34
  go_wp2
  go_ret
  exact ⟨rfl, (Below.refl _ _).alloc (Nat.le_refl _) _⟩
set_option maxHeartbeats 400000 in
theorem current_one (d : Bool) (lb : Nat) (w : World) (hl : lb < w.heap.size) (c1 : w.cell? ⟨lb, 1, none⟩ = some (.string ⟨#[49, 45, 97]⟩))
    (c2 : w.cell? ⟨lb, 2, none⟩ = some (.bool d)) (c3 : w.cell? ⟨lb, 3, none⟩ = some (.slice none 0 0)) :
    Calls Try.prog 35 #[.agg #[.slice (some ⟨lb, 0, none⟩) 1 1, .slice none 0 0, .int .i64 0, .int .u64 0]] w fun e w' => e = .returned (.agg #[.string ⟨#[49, 45, 97]⟩, .bool d, .slice none 0 0]) ∧ Below w.heap.size w w' := by
  go_enter Try.func35, Try.ntmps35
  go_wp2_with fail
  refine (exists_one lb _).mono ?_
  rintro e w1 ⟨rfl, hb1⟩
  obtain ⟨hc, hf⟩ := bcell hb1
  have hz := hb1.size
  have b0 : w1.cell? ⟨w.heap.size, 0, none⟩ = some (.slice (some ⟨lb, 0, none⟩) 1 1) := (hc _ _ (by simp; omega)).trans (by simp)
  have s0 : w1.cell? ⟨w.heap.size + 1, 0, none⟩ = some (.string ⟨#[]⟩) := (hc _ _ (by simp)).trans (by simp)
  have s1 : w1.cell? ⟨w.heap.size + 1, 1, none⟩ = some (.bool false) := (hc _ _ (by simp)).trans (by simp)
  have s2 : w1.cell? ⟨w.heap.size + 1, 2, none⟩ = some (.slice none 0 0) := (hc _ _ (by simp)).trans (by simp)
  have f0 : ∀ j, w1.frozen? ⟨w.heap.size + 1, j, none⟩ = false := fun j => (hf _ _ (by simp)).trans (by simp)
  have g1 : w1.cell? ⟨lb, 1, none⟩ = _ := (hc _ _ (by simp; omega)).trans ((World.cell?_alloc_lt _ _ _ (by simp; omega)).trans ((World.cell?_alloc_lt _ _ _ hl).trans c1))
  have g2 : w1.cell? ⟨lb, 2, none⟩ = _ := (hc _ _ (by simp; omega)).trans ((World.cell?_alloc_lt _ _ _ (by simp; omega)).trans ((World.cell?_alloc_lt _ _ _ hl).trans c2))
  have g3 : w1.cell? ⟨lb, 3, none⟩ = _ := (hc _ _ (by simp; omega)).trans ((World.cell?_alloc_lt _ _ _ (by simp; omega)).trans ((World.cell?_alloc_lt _ _ _ hl).trans c3))
  have hb2 : Below w.heap.size w w1 := (((Below.refl _ w).alloc (Nat.le_refl _) _).alloc (by simp) _).trans (hb1.mono (by simp; omega))
  clear hc hf hb1 c1 c2 c3
  go_wp2
  exact bodyPost_ret (v := .agg #[.string ⟨#[49, 45, 97]⟩, .bool d, .slice none 0 0]) (by simp [results, Try.results35, go_sem, s0, s1, s2]) rfl ⟨rfl, ((hb2.setCell (by simp) _).setCell (by simp) _).setCell (by simp) _⟩
theorem field_del (d : Bool) (w : World) : (Instr.field 61 (.agg #[.string ⟨#[49, 45, 97]⟩, .bool d, .slice none 0 0]) 1).run Try.prog w = .ok (.bool d) w := by kernel_rfl
set_option maxHeartbeats 400000 in
theorem counts_some (d : Bool) (lb : Nat) (w : World) (hl : lb < w.heap.size) (c1 : w.cell? ⟨lb, 1, none⟩ = some (.string ⟨#[49, 45, 97]⟩))
    (c2 : w.cell? ⟨lb, 2, none⟩ = some (.bool d)) (c3 : w.cell? ⟨lb, 3, none⟩ = some (.slice none 0 0)) :
    Calls Try.prog 29 #[.agg #[.slice (some ⟨lb, 0, none⟩) 1 1, .slice none 0 0, .int .i64 0, .int .u64 0], .bool false] w fun e w' => e = .returned (.int .i64 (if d then 0 else 1)) ∧ Below w.heap.size w w' := by
  go_enter Try.func29, Try.ntmps29
  go_wp2_with fail
  refine (exists_one lb _).mono ?_
  rintro e w1 ⟨rfl, hb1⟩
  obtain ⟨b1, _, _, _, hz, hb2⟩ := slot_after hb1
  clear hb1
  have g1 : w1.cell? ⟨lb, 1, none⟩ = _ := (hb2.cell hl).trans c1
  have g2 : w1.cell? ⟨lb, 2, none⟩ = _ := (hb2.cell hl).trans c2
  have g3 : w1.cell? ⟨lb, 3, none⟩ = _ := (hb2.cell hl).trans c3
  clear c1 c2 c3
  go_wp2_with fail
  refine (current_one d lb _ (by omega) g1 g2 g3).mono ?_
  rintro e w2 ⟨rfl, hb3⟩
  have hb4 : Below w.heap.size w w2 := hb2.trans (hb3.mono (by omega))
  clear hb3 b1 g1 g2 g3
  have hfd := field_del d
  cases d
  · go_wp2
    go_ret
    exact ⟨rfl, hb4⟩
  · go_wp2
    go_ret
    exact ⟨rfl, hb4⟩
end Go.Proofs.Qxb6609485a
