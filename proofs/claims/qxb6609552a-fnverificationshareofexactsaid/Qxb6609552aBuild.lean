import Derived.Test.Qxb6609552aBase
namespace Go.Proofs.Qxb6609552a
open Go.RowKit

/-- The cells v laid over cs from off on. -/
def splice (cs : Array Value) (off : Nat) (v : Array Value) : Array Value := v.zipIdx.foldl (fun cs (c, j) => cs.setIfInBounds (off + j) c) cs

theorem fold_size (off : Nat) : ∀ (l : List (Value × Nat)) (cs : Array Value), (l.foldl (fun cs (c, j) => cs.setIfInBounds (off + j) c) cs).size = cs.size
  | [], _ => rfl
  | (c, j) :: l, cs => by rw [List.foldl_cons, fold_size off l]; simp
theorem fold_get (off : Nat) : ∀ (l : List Value) (k : Nat) (cs : Array Value) (i : Nat), off + k + l.length ≤ cs.size →
    ((l.zipIdx k).foldl (fun cs (c, j) => cs.setIfInBounds (off + j) c) cs)[i]? = if off + k ≤ i ∧ i < off + k + l.length then l[i - (off + k)]? else cs[i]?
  | [], k, cs, i, _ => by
    have : ¬ (off + k ≤ i ∧ i < off + k + ([] : List Value).length) := by simp
    rw [if_neg this]; rfl
  | c :: l, k, cs, i, h => by
    have hl : off + k + (l.length + 1) ≤ cs.size := h
    rw [List.zipIdx_cons, List.foldl_cons, fold_get off l (k + 1) _ i (by simp; omega)]
    by_cases h1 : off + (k + 1) ≤ i ∧ i < off + (k + 1) + l.length
    · rw [if_pos h1, if_pos (by simp; omega), show i - (off + k) = i - (off + (k + 1)) + 1 from by omega, List.getElem?_cons_succ]
    · rw [if_neg h1]
      by_cases h2 : i = off + k
      · subst h2
        rw [if_pos (by simp), Nat.sub_self, Array.getElem?_setIfInBounds_self_of_lt (by omega)]; rfl
      · have h3 : ¬ (off + k ≤ i ∧ i < off + k + (c :: l).length) := by simp; omega
        rw [if_neg h3, Array.getElem?_setIfInBounds_ne (by omega)]
theorem splice_size (cs v : Array Value) (off : Nat) : (splice cs off v).size = cs.size := by
  unfold splice; rw [← Array.foldl_toList]; exact fold_size off _ cs
theorem splice_get (cs v : Array Value) (off i : Nat) (h : off + v.size ≤ cs.size) : (splice cs off v)[i]? = if off ≤ i ∧ i < off + v.size then v[i - off]? else cs[i]? := by
  unfold splice
  have := fold_get off v.toList 0 cs i (by simpa using h)
  rw [← Array.foldl_toList, Array.toList_zipIdx, this]
  simp

theorem fill_step {place : Nat → Option (Nat × Nat)} {cells : Array Value} {i off size : Nat} {v : Value} {rest : List (Nat × Value)} (hp : place i = some (off, size)) (hs : v.cells.size = size) (hb : off + size ≤ cells.size) :
    Instr.fill place cells ((i, v) :: rest) = Instr.fill place (splice cells off v.cells) rest := by
  have hb' : ¬ (off + v.cells.size > cells.size) := by omega
  simp only [Instr.fill, hp, hs, ne_eq, not_true_eq_false, decide_false, Bool.false_or, decide_eq_true_eq]
  rw [if_neg (by omega)]
  rfl
theorem built_struct {P : Program} {t : TypeId} {fs : Array Field} {places : List (Nat × Nat)} {z : Value} (hu : P.underlying t = some (.struct fs)) (hp : fs.toList.mapM (fun f => (P.info? f.type).map fun i => (f.offset, i.size)) = some places)
    (hz : (P.info? t).bind (·.zero) = some z) (parts : List (Nat × Value)) : P.built t parts = Instr.fill (places.toArray[·]?) z.cells parts := by
  cases hi : P.info? t with
  | none => simp [hi] at hz
  | some it =>
    have hz' : it.zero = some z := by simpa [hi] using hz
    simp only [Program.built, hi, hu, hz', hp]

theorem zero55 : ∃ z, (Try.prog.info? 55).bind (·.zero) = some z ∧ z.cells.size = 61 := by
  have h : (((Try.prog.info? 55).bind (·.zero)).map (·.cells.size)) = some 61 := by kernel_rfl
  cases hz : (Try.prog.info? 55).bind (·.zero) with
  | none => simp [hz] at h
  | some z => exact ⟨z, rfl, by simpa [hz] using h⟩
theorem zero47 : ∃ z, (Try.prog.info? 47).bind (·.zero) = some z ∧ z.cells.size = 34 := by
  have h : (((Try.prog.info? 47).bind (·.zero)).map (·.cells.size)) = some 34 := by kernel_rfl
  cases hz : (Try.prog.info? 47).bind (·.zero) with
  | none => simp [hz] at h
  | some z => exact ⟨z, rfl, by simpa [hz] using h⟩

theorem built47 (x : Int) (l : List Value) (hl : l.length = 33) : Try.prog.built 47 [(0, .int .i64 x), (1, .agg l.toArray)] = some (Value.int .i64 x :: l).toArray := by
  obtain ⟨z, hz, hs⟩ := zero47
  have hc : (Value.agg l.toArray).cells.size = 33 := hl
  have hx : (Value.int .i64 x).cells.size = 1 := rfl
  rw [built_struct Try.underlying47 (places := [(0, 1), (1, 33)]) (by kernel_rfl) hz]
  rw [fill_step (off := 0) (size := 1) rfl rfl (by omega)]
  rw [fill_step (off := 1) (size := 33) rfl hc (by rw [splice_size]; omega)]
  show some _ = _
  congr 1
  apply Array.ext_getElem?
  intro i
  rw [splice_get _ _ _ _ (by rw [splice_size]; omega)]
  by_cases h : 1 ≤ i ∧ i < 1 + (Value.agg l.toArray).cells.size
  · rw [if_pos h]
    obtain ⟨j, rfl⟩ : ∃ j, i = j + 1 := ⟨i - 1, by omega⟩
    simp [Value.cells]
  · rw [if_neg h, splice_get _ _ _ _ (by omega)]
    by_cases h0 : i = 0
    · subst h0
      simp [Value.cells]
    · rw [if_neg (by omega), Array.getElem?_eq_none (by omega), Array.getElem?_eq_none (by simp; omega)]

theorem built55 (c0 c2 c3 : Int) (gk gen : Array Value) (a : Option Addr) (n cap : Nat) (h1 : gk.size = 33) (h2 : gen.size = 16) :
    ∃ X, Try.prog.built 55 [(0, .int .i64 c0), (1, .agg gk), (2, .int .i64 c2), (3, .int .i64 c3), (4, .agg gen), (5, .slice a n cap)] = some X ∧ X[52]? = some (.slice a n cap) := by
  obtain ⟨z, hz, hs⟩ := zero55
  have g1 : (Value.agg gk).cells.size = 33 := h1
  have g2 : (Value.agg gen).cells.size = 16 := h2
  have g3 : (Value.slice a n cap).cells.size = 1 := rfl
  rw [built_struct Try.underlying55 (places := [(0, 1), (1, 33), (34, 1), (35, 1), (36, 16), (52, 1), (53, 8)]) (by kernel_rfl) hz]
  rw [fill_step (off := 0) (size := 1) rfl rfl (by omega), fill_step (off := 1) (size := 33) rfl g1 (by simp only [splice_size]; omega), fill_step (off := 34) (size := 1) rfl rfl (by simp only [splice_size]; omega),
    fill_step (off := 35) (size := 1) rfl rfl (by simp only [splice_size]; omega), fill_step (off := 36) (size := 16) rfl g2 (by simp only [splice_size]; omega), fill_step (off := 52) (size := 1) rfl rfl (by simp only [splice_size]; omega)]
  refine ⟨_, rfl, ?_⟩
  rw [splice_get _ _ _ _ (by simp only [splice_size]; omega)]
  simp [Value.cells]

/-- A literal of a struct, its parts whatever. -/
theorem wpList_build {P : Program} {ops : Array Oper} {rest : List Oper} {op : Oper} {a : Act} {w : World} {Q : Exit → Act → World → Prop} (hgd : op.guard = none) (ty : TypeId) (parts : Array (Nat × Operand)) (ho : op.op = .build ty parts)
    (vals : Array (Nat × Value)) (hx : (parts.map fun (i, x) => (i, a.eval x)) = vals) (cells : Array Value) (hb : P.built ty vals.toList = some cells)
    (h : wpList P ops Q rest (a.put op.dst (.agg cells)) w) : wpList P ops Q (op :: rest) a w :=
  wpList_plain hgd fun _ hK => by
    unfold Oper.wp execOp
    subst hx
    simp only [ho, Sem.run_bind, run_build w ty _ _ hb, Result.andThen_ok]
    exact hK _ _ h
end Go.Proofs.Qxb6609552a
