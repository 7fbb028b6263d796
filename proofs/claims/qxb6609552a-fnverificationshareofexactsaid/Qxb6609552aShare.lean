import Derived.Test.Qxb6609552aBuild
namespace Go.Proofs.Qxb6609552a
open Go.RowKit

theorem cell_newest (W : World) (cs : Array Value) (t : TypeId) (n : Nat) (hn : n = W.heap.size) (j : Nat) : (W.alloc (.cells cs t)).cell? ⟨n, j, none⟩ = cs[j]? := by
  subst hn; simp
/-- The two boxes of the great arguments, in every world that has kept them. -/
theorem boxes {w : World} {gk gen : Array Value} (V : World) (k : Below ((w.alloc (.cells gk 27)).alloc (.cells gen 28)).heap.size ((w.alloc (.cells gk 27)).alloc (.cells gen 28)) V) :
    V.rangeAt w.heap.size 0 gk.toList ∧ V.rangeAt (w.heap.size + 1) 0 gen.toList := by
  refine ⟨fun j v hv => ?_, fun j v hv => ?_⟩
  · refine (k.cell (p := ⟨w.heap.size, 0 + j, none⟩) (by simp; omega)).trans ?_
    rw [World.cell?_alloc_lt _ _ _ (by simp)]
    simpa using hv
  · refine (k.cell (p := ⟨w.heap.size + 1, 0 + j, none⟩) (by simp)).trans ?_
    have e : w.heap.size + 1 = (w.alloc (.cells gk 27)).heap.size := by simp
    rw [e]; simpa using hv
end Go.Proofs.Qxb6609552a
namespace Go.Proofs.Qxb6609552a
open Go.RowKit

set_option maxRecDepth 100000 in
set_option maxHeartbeats 1000000 in
theorem share_nil (c0 c2 c3 : Int) (gk gen : Array Value) (E : Nat → Int) (P : Nat → List Value) (w : World) (hgk : gk.size = 33) (hgen : gen.size = 16) :
    Calls Try.prog 10 #[.int .i64 c0, .agg gk, .int .i64 c2, .int .i64 c3, .agg gen, .slice none 0 0] w fun e w' => ∃ (sb : Nat) (a' : Option Addr) (cap' : Nat), e = .returned (.pointer (some ⟨sb, 0, none⟩)) ∧ w'.cell? ⟨sb, 52, none⟩ = some (.slice a' 0 cap') ∧ Sh w' a' 0 E P ∧ Below w.heap.size w w' := by
  obtain ⟨X, hX, h52⟩ := built55 c0 c2 c3 gk gen none 0 0 hgk hgen
  have HX : Hid _ := hX
  have H5 : Hid _ := h52
  clear hX h52
  have HB : Hid _ := boxes (w := w) (gk := gk) (gen := gen) _ (Below.refl _ _)
  have h1 : Hid ((Try.prog.info? 27).map (·.size) = some gk.toList.length) := by show _ = _; rw [size27]; simp [hgk]
  have h2 : Hid ((Try.prog.info? 28).map (·.size) = some gen.toList.length) := by show _ = _; rw [size28]; simp [hgen]
  clear hgk hgen
  go_enter Try.func10, Try.ntmps10
  go_wp2_with (first
    | (refine wpList_load_mid rfl 27 _ rfl _ _ rfl _ _ HB.out.1 Try.underlying27 rfl h1.out ?_)
    | (refine wpList_load_mid rfl 28 _ rfl _ _ rfl _ _ HB.out.2 Try.underlying28 rfl h2.out ?_)
    | (refine wpList_build rfl 55 _ rfl #[(0, .int .i64 c0), (1, .agg gk), (2, .int .i64 c2), (3, .int .i64 c3), (4, .agg gen), (5, .slice none 0 0)] ?hx _ HX.out ?_))
  go_ret
  refine ⟨_, none, 0, rfl, ?_, fun i hi => by omega, (((Below.refl _ w).alloc (Nat.le_refl _) _).alloc (by simp) _).alloc (by simp; omega) _⟩
  exact (cell_newest _ _ _ _ (by simp) 52).trans H5.out

/-- The row that is being filled: i shares stand in it, all of it may be written. -/
structure Row (w : World) (b n i : Nat) (E : Nat → Int) (P : Nat → List Value) : Prop where
  lt : b < w.heap.size
  there : w.there b 0 (n * 34)
  full : ∀ j, j < i → w.rangeAt b (j * 34) (el E P j)

/-- The 33 cells that lie there. -/
def rd (w : World) (g o : Nat) : List Value := (List.range 33).map fun j => (w.cell? ⟨g, o + j, none⟩).getD undef
/-- All 33 are there. -/
def Has (w : World) (g o : Nat) : Prop := w.rangeAt g o (rd w g o)
theorem rd_of {w : World} {g o : Nat} {l : List Value} (h : w.rangeAt g o l) (hl : l.length = 33) : rd w g o = l := by
  apply List.ext_getElem?
  intro j
  by_cases hj : j < 33
  · have hj' : j < l.length := by omega
    have := h j _ (List.getElem?_eq_getElem hj')
    simp [rd, hj, this, List.getElem?_eq_getElem hj']
  · simp [rd, hj]; omega
theorem has_of {w : World} {g o : Nat} {l : List Value} (h : w.rangeAt g o l) (hl : l.length = 33) : Has w g o := by unfold Has; rw [rd_of h hl]; exact h
/-- Three operations under names of their own: the walk does not open these. -/
def L27 (v : Value) : Sem Value := Instr.loadAt 27 v
def B47 (parts : Array (Nat × Value)) : Sem Value := Instr.build 47 parts
def S47 (p v : Value) : Sem Unit := Instr.storeAt 47 p v
theorem l27 (v : Value) : Instr.loadAt 27 v = L27 v := rfl
theorem b47 (parts : Array (Nat × Value)) : Instr.build 47 parts = B47 parts := rfl
theorem s47 (p v : Value) : Instr.storeAt 47 p v = S47 p v := rfl
theorem run_L27 (w : World) (g o : Nat) (h : Has w g o) : (L27 (.pointer (some ⟨g, o, none⟩))).run Try.prog w = .ok (.agg (rd w g o).toArray) w := load27 h (by simp [rd])
theorem run_B47 (w : World) (x : Int) (l : List Value) (hl : l.length = 33) : (B47 #[(0, .int .i64 x), (1, .agg l.toArray)]).run Try.prog w = .ok (.agg (.int .i64 x :: l).toArray) w := run_build w 47 _ _ (built47 x l hl)
/-- 33 cells, one a value. -/
def Ones (l : List Value) : Prop := l.length = 33 ∧ ∀ v ∈ l, v.oneCell' = true
theorem run_S47 (w : World) (b o : Nat) (x : Int) (l : List Value) (hl : Ones l) (ht : w.there b o 34) : (S47 (.pointer (some ⟨b, o, none⟩)) (.agg (.int .i64 x :: l).toArray)).run Try.prog w = .ok () (w.setCells b o (.int .i64 x :: l)) := by
  refine run_storeAt_mid w b o 47 _ (by simpa [hl.1] using ht) (by rw [size47]; simp [hl.1]) (all_oneCell_toArray ?_)
  intro v hv
  rcases List.mem_cons.1 hv with rfl | hv
  · rfl
  · exact hl.2 v hv
attribute [local go_sem ↓] l27 b47 s47
attribute [local go_sem] run_L27 run_B47 run_S47

theorem below_setCells {B : Nat} {a : World} {b : Nat} (hb : B ≤ b) : ∀ (vs : List Value) (o : Nat) (w : World), Below B a w → Below B a (w.setCells b o vs)
  | [], _, _, h => h
  | v :: r, o, _, h => below_setCells hb r (o + 1) _ (h.setCell (p := ⟨b, o, none⟩) hb v)
theorem size_setCells (b : Nat) : ∀ (vs : List Value) (o : Nat) (w : World), (w.setCells b o vs).heap.size = w.heap.size
  | [], _, _ => rfl
  | v :: r, o, w => by rw [World.setCells, size_setCells b r]; simp
theorem Row.next {w : World} {b n k : Nat} {E : Nat → Int} {P : Nat → List Value} (h : Row w b n k E P) (hk : k < n) (hP : ∀ j, j < n → (P j).length = 33) : Row (w.drew.setCells b (k * 34) (.int .i64 (E k) :: P k)) b n (k + 1) E P := by
  have hl : ∀ j, j < n → (el E P j).length = 34 := fun j hj => by simp [el, hP j hj]
  refine ⟨by rw [size_setCells]; exact h.lt, World.there_setCells ((World.there_drew _ _ _ _).2 h.there) _ _ _, fun j hj => ?_⟩
  by_cases e : j = k
  · subst e
    refine World.rangeAt_setCells_same _ _ _ _ ((World.there_drew _ _ _ _).2 fun i hi => ?_)
    have hl' := hl j hk
    unfold el at hl'
    have := h.there (j * 34 + i) (by omega)
    simpa using this
  · refine World.rangeAt_setCells_apart ((World.rangeAt_drew _ _ _ _).2 (h.full j (by omega))) _ _ _ (.inr (.inl ?_))
    rw [hl j (by omega)]
    omega

theorem info47 : ∃ i z, Try.prog.info? 47 = some i ∧ i.zero = some z ∧ i.size = 34 ∧ i.bytes ≤ 64 := by
  have h : (Try.prog.info? 47).map (fun i => (i.zero.isSome, i.size, decide (i.bytes ≤ 64))) = some (true, 34, true) := by kernel_rfl
  cases hi : Try.prog.info? 47 with
  | none => simp [hi] at h
  | some i =>
    simp only [hi, Option.map_some, Option.some.injEq, Prod.mk.injEq, decide_eq_true_eq] at h
    obtain ⟨z, hz⟩ := Option.isSome_iff_exists.1 h.1
    exact ⟨i, z, rfl, hz, h.2.1, h.2.2⟩
theorem make47 (n : Nat) (hn : n ≤ 1048576) : ∃ M : Array Value, M.size = n * 34 ∧ ∀ W : World, (Instr.makeSlice 45 (.int .i64 (n : Int)) (.int .i64 (n : Int))).run Try.prog W = .ok (.slice (some ⟨W.heap.size, 0, none⟩) n n) (W.alloc (.cells M 47)) := by
  obtain ⟨i, z, hi, hz, hs, hb⟩ := info47
  refine ⟨madeCells z.cells (n * 34), size_madeCells _ _, fun W => ?_⟩
  have := run_make (P := Try.prog) W 45 47 i z Try.underlying45 hi hz .i64 .i64 n n (by omega) (Int.le_refl _) (by
    have h1 : i.bytes * n ≤ 64 * 1048576 := Nat.mul_le_mul hb hn
    have h2 : ((i.bytes : Int) * (n : Int)) = ((i.bytes * n : Nat) : Int) := by simp
    rw [h2]; omega) (by omega)
  rw [this, hs]
  simp

theorem Row.new (W : World) (M : Array Value) (n : Nat) (E : Nat → Int) (P : Nat → List Value) (hM : M.size = n * 34) : Row (W.alloc (.cells M 47)) W.heap.size n 0 E P := by
  refine ⟨by simp, fun j hj => ⟨?_, by simp⟩, fun j hj => by omega⟩
  simp; omega

set_option maxRecDepth 100000 in
set_option maxHeartbeats 1000000 in
theorem share_some (c0 c2 c3 : Int) (gk gen : Array Value) (g off n cap : Nat) (spot : _) (hs : 0 < n → spot = none) (E : Nat → Int) (P : Nat → List Value) (w : World) (hn : n ≤ 1048576) (hgk : gk.size = 33) (hgen : gen.size = 16)
    (hd : ∀ i, i < n → w.rangeAt g (off + i * 34) (el E P i)) (hg : 0 < n → g < w.heap.size) (hP : ∀ i, i < n → Pnt (P i)) :
    Calls Try.prog 10 #[.int .i64 c0, .agg gk, .int .i64 c2, .int .i64 c3, .agg gen, .slice (some ⟨g, off, spot⟩) n cap] w fun e w' => ∃ (sb : Nat) (a' : Option Addr) (cap' : Nat), e = .returned (.pointer (some ⟨sb, 0, none⟩)) ∧ w'.cell? ⟨sb, 52, none⟩ = some (.slice a' n cap') ∧ Sh w' a' n E P ∧ Below w.heap.size w w' := by
  have HB : Hid _ := fun V k => boxes (w := w) (gk := gk) (gen := gen) V k
  have h1 : Hid ((Try.prog.info? 27).map (·.size) = some gk.toList.length) := by show _ = _; rw [size27]; simp [hgk]
  have h2 : Hid ((Try.prog.info? 28).map (·.size) = some gen.toList.length) := by show _ = _; rw [size28]; simp [hgen]
  obtain ⟨M, hM, hmk⟩ := make47 n hn
  have hz2 : ((w.alloc (.cells gk 27)).alloc (.cells gen 28)).heap.size = w.heap.size + 2 := by simp
  have hb2 : Below w.heap.size w ((w.alloc (.cells gk 27)).alloc (.cells gen 28)) := ((Below.refl _ w).alloc (Nat.le_refl _) _).alloc (by simp) _
  have HD : Hid (∀ V, Below w.heap.size w V → ∀ i, i < n → V.rangeAt g (off + i * 34) (el E P i)) := fun V k i hi => range_below (hd i hi) k (hg (by omega))
  have HPL : Hid (∀ j, j < n → (P j).length = 33) := fun j hj => (hP j hj).1
  have HS : Hid (0 < n → spot = none) := hs
  clear hs
  have hgk' : Hid _ := hgk
  have hgen' : Hid _ := hgen
  clear hgk hgen hd
  go_enter Try.func10, Try.ntmps10
  go_wp2_with fail
  generalize hW2 : (w.alloc (.cells gk 27)).alloc (.cells gen 28) = W2 at *
  have hR0 := Row.new W2 M n E P hM
  have hbM : Below W2.heap.size W2 (W2.alloc (.cells M 47)) := (Below.refl _ _).alloc (Nat.le_refl _) _
  go_loopw [14] (fun i wr => ∃ k : Nat, k ≤ n ∧ i = .int .i64 k ∧ Row wr (w.heap.size + 2) n k E P ∧ Below W2.heap.size W2 wr) (fun i _ => n - (intOf i).toNat)
  case atStart => exact ⟨0, Nat.zero_le _, rfl, by rw [← hz2]; exact hR0, hbM⟩
  case round =>
    obtain ⟨k, hk, rfl, hR, hB⟩ := hrel
    by_cases hlt : k < n
    · obtain rfl := HS.out (by omega)
      have hbw : Below w.heap.size w wr := hb2.trans (hB.mono (by omega))
      have hr := HD.out wr hbw k hlt
      have hPk := (hP k hlt).1
      have hc0 : wr.cell? ⟨g, off + k * 34, none⟩ = some (.int .i64 (E k)) := hr 0 _ rfl
      have hr1 : wr.rangeAt g (off + k * 34 + 1) (P k) := fun j v hv => by have := hr (j + 1) v hv; rw [show off + k * 34 + 1 + j = off + k * 34 + (j + 1) from by omega]; exact this
      have hh : Has wr.drew g (off + k * 34 + 1) := has_of ((World.rangeAt_drew _ _ _ _).2 hr1) hPk
      have hrd : rd wr.drew g (off + k * 34 + 1) = P k := rd_of ((World.rangeAt_drew _ _ _ _).2 hr1) hPk
      have hon : Ones (P k) := ⟨hPk, fun v hv => by obtain ⟨z, rfl⟩ := (hP k hlt).2 v hv; rfl⟩
      have hth : wr.drew.there (w.heap.size + 2) (k * 34) 34 := (World.there_drew _ _ _ _).2 fun j hj => by have := hR.there (k * 34 + j) (by omega); simpa using this
      have hbd : 0 ≤ (k : Int) ∧ (k : Int) < (n : Int) := by omega
      clear hr hr1 hP
      go_wp2_with fail
      go_region
      go_wp2_with fail
      go_roundw
      case rel => exact ⟨k + 1, by omega, by go_num, hR.next hlt HPL.out, below_setCells (by omega) _ _ _ hB.drew⟩
      case measure => simp [intOf]; omega
    · have e : k = n := by omega
      subst e
      obtain ⟨X, hX, h52⟩ := built55 c0 c2 c3 gk gen (some ⟨w.heap.size + 2, 0, none⟩) k k hgk'.out hgen'.out
      have HX : Hid _ := hX
      have H5 : Hid _ := h52
      clear hX h52
      have HBB : Hid _ := HB.out _ hB
      have hsz := hB.size
      go_wp2_with (first
        | (refine wpList_load_mid rfl 27 _ rfl _ _ rfl _ _ HBB.out.1 Try.underlying27 rfl h1.out ?_)
        | (refine wpList_load_mid rfl 28 _ rfl _ _ rfl _ _ HBB.out.2 Try.underlying28 rfl h2.out ?_)
        | (refine wpList_build rfl 55 _ rfl #[(0, .int .i64 c0), (1, .agg gk), (2, .int .i64 c2), (3, .int .i64 c3), (4, .agg gen), (5, .slice (some ⟨w.heap.size + 2, 0, none⟩) k k)] ?hx _ HX.out ?_))
      go_ret
      refine ⟨_, some ⟨w.heap.size + 2, 0, none⟩, k, rfl, ?_, fun i hi => ⟨w.heap.size + 2, 0, rfl, ?_, ?_⟩, ((hb2.trans (hB.mono (by omega))).alloc (by omega) _)⟩
      · exact (cell_newest _ _ _ _ (by simp) 52).trans H5.out
      · have := hR.lt; simp; omega
      · exact World.rangeAt_alloc (by simpa using hR.full i hi) _
end Go.Proofs.Qxb6609552a
