import Derived.Test.Qxb6609552aRows
import Derived.WalkKit
import Derived.WalkSpells
import Derived.WalkLawsBesides
import Derived.Deep.QuietTactic
import Derived.BigQuiet
import Derived.Deep.MidRow
import Derived.Deep.RegionHeld3
namespace Go.Proofs.Qxb6609552a
open Go.RowKit

/-! ### Worlds -/
/-- A world that has kept all that lay in w. -/
structure Kin (w : World) where
  at' : World
  below : Below w.heap.size w at'
theorem wp_region_kin {P : Program} {id : Nat} {Q : Exit → Act → World → Prop} {a : Act} {w : World} {l : List Oper} (hm : P.follows .mixedOrders = true) (hB : Region.lexB .any l.toArray = true)
    (h : wpQuiet P l.toArray (fun w' => ∃ p : Kin w, w' = p.at') (fun a' => ∀ w', (∃ p : Kin w, w' = p.at') → Q .normal a' w') l a) : (Code.region id l.toArray true).wp P Q a w :=
  wp_region_quiet (C := fun w' => ∃ p : Kin w, w' = p.at') hm hB ⟨⟨w.drew, (Below.refl _ _).drew⟩, rfl⟩ (by simpa using h)
theorem kinNe (w : World) : Nonempty (Kin w) := ⟨⟨w, Below.refl _ _⟩⟩
theorem kin_of {P : Program} {f : FuncId} {args : Array Value} {w : World} {p : Kin w} {v : Value}
    (h : Calls P f args p.at' fun e w' => e = .returned v ∧ Below p.at'.heap.size p.at' w') : Calls P f args p.at' fun e w'' => e = .returned v ∧ ∃ q : Kin w, w'' = q.at' :=
  h.mono fun _ w' ⟨he, hb⟩ => ⟨he, ⟨w', p.below.trans (hb.mono p.below.size)⟩, rfl⟩
theorem range_below {w w' : World} {g o : Nat} {cs : List Value} (h : w.rangeAt g o cs) (k : Below w.heap.size w w') (hg : g < w.heap.size) : w'.rangeAt g o cs :=
  fun j v hv => (k.cell (p := ⟨g, o + j, none⟩) hg).trans (h j v hv)

/-! ### Shares -/
/-- One share: its index, and the 33 cells of its point. -/
def el (E : Nat → Int) (P : Nat → List Value) (i : Nat) : List Value := .int .i64 (E i) :: P i
/-- A point's cells: 33 bytes. -/
def Pnt (l : List Value) : Prop := l.length = 33 ∧ ∀ v ∈ l, ∃ z, v = .int .u8 z
/-- The shares as they lie in memory. -/
def Sh (w : World) (a : Option Addr) (n : Nat) (E : Nat → Int) (P : Nat → List Value) : Prop :=
  ∀ i, i < n → ∃ g off, a = some ⟨g, off, none⟩ ∧ g < w.heap.size ∧ w.rangeAt g (off + i * 34) (el E P i)
theorem Sh.below {w w' : World} {a : Option Addr} {n : Nat} {E : Nat → Int} {P : Nat → List Value} (h : Sh w a n E P) (k : Below w.heap.size w w') : Sh w' a n E P := fun i hi => by
  obtain ⟨g, off, ha, hg, hr⟩ := h i hi
  exact ⟨g, off, ha, Nat.lt_of_lt_of_le hg k.size, range_below hr k hg⟩
theorem size47 : (Try.prog.info? 47).map (·.size) = some 34 := by kernel_rfl
theorem size27 : (Try.prog.info? 27).map (·.size) = some 33 := by kernel_rfl
theorem size35 : (Try.prog.info? 35).map (·.size) = some 33 := by kernel_rfl
theorem size28 : (Try.prog.info? 28).map (·.size) = some 16 := by kernel_rfl
theorem und47 : ∃ d, Try.prog.underlying 47 = some d ∧ d.isRow = true := ⟨_, Try.underlying47, rfl⟩
theorem und27 : ∃ d, Try.prog.underlying 27 = some d ∧ d.isRow = true := ⟨_, Try.underlying27, rfl⟩
theorem und35 : ∃ d, Try.prog.underlying 35 = some d ∧ d.isRow = true := ⟨_, Try.underlying35, rfl⟩
theorem und28 : ∃ d, Try.prog.underlying 28 = some d ∧ d.isRow = true := ⟨_, Try.underlying28, rfl⟩
theorem load47 {w : World} {g o : Nat} {x : Value} {l : List Value} (h : w.rangeAt g o (x :: l)) (hl : l.length = 33) : (Instr.loadAt 47 (.pointer (some ⟨g, o, none⟩))).run Try.prog w = .ok (.agg (x :: l).toArray) w := by
  obtain ⟨d, h1, h2⟩ := und47
  exact run_loadAt_mid w g o 47 _ d h h1 h2 (by rw [size47]; simp [hl])
theorem load27 {w : World} {g o : Nat} {l : List Value} (h : w.rangeAt g o l) (hl : l.length = 33) : (Instr.loadAt 27 (.pointer (some ⟨g, o, none⟩))).run Try.prog w = .ok (.agg l.toArray) w := by
  obtain ⟨d, h1, h2⟩ := und27
  exact run_loadAt_mid w g o 27 _ d h h1 h2 (by rw [size27]; simp [hl])
theorem load35 {w : World} {g o : Nat} {l : List Value} (h : w.rangeAt g o l) (hl : l.length = 33) : (Instr.loadAt 35 (.pointer (some ⟨g, o, none⟩))).run Try.prog w = .ok (.agg l.toArray) w := by
  obtain ⟨d, h1, h2⟩ := und35
  exact run_loadAt_mid w g o 35 _ d h h1 h2 (by rw [size35]; simp [hl])
theorem load28 {w : World} {g o : Nat} {l : List Value} (h : w.rangeAt g o l) (hl : l.length = 16) : (Instr.loadAt 28 (.pointer (some ⟨g, o, none⟩))).run Try.prog w = .ok (.agg l.toArray) w := by
  obtain ⟨d, h1, h2⟩ := und28
  exact run_loadAt_mid w g o 28 _ d h h1 h2 (by rw [size28]; simp [hl])

/-- The load of many cells at an operation that waits for a test (the test has come out so). -/
theorem wpList_load_on {P : Program} {ops : Array Oper} {rest : List Oper} {op : Oper} {a : Act} {w : World} {Q : Exit → Act → World → Prop} (ty : TypeId) (x : Operand) (ho : op.op = .load ty x) (hw : Region.wanted op (yielded ops a.tmps) = true)
    (b o : Nat) (hx : a.eval x = .pointer (some ⟨b, o, none⟩)) (cs : List Value) (d : TypeDesc) (hc : w.rangeAt b o cs)
    (hu : P.underlying ty = some d) (hd : d.isRow = true) (hi : (P.info? ty).map (·.size) = some cs.length)
    (h : wpList P ops Q rest (a.put op.dst (.agg cs.toArray)) w) : wpList P ops Q (op :: rest) a w :=
  wpList_step fun K hK => by simp only [hw, if_true]; exact wp_load_mid ty x ho b o hx cs d hc hu hd hi (hK _ _ h)

/-! ### The comparison and the search -/
set_option maxHeartbeats 400000 in
theorem cmp (x q : Int) (l : List Value) (w : World) : Calls Try.prog 21 #[.agg (.int .i64 x :: l).toArray, .int .i64 q] w fun e w' => e = .returned (.int .i64 (wrap64 (x - q))) ∧ Below w.heap.size w w' := by
  go_enter Try.func21, Try.ntmps21
  go_wp2_with fail
  go_ret
  exact ⟨rfl, (Below.refl _ _).alloc (Nat.le_refl _) _⟩

theorem bs_up {n : Nat} {ord : Nat → Int} {m : Nat} (hmono : ∀ i j, i < j → j < n → 0 ≤ ord i → 0 < ord j) (hm : m < n) (hc : ord m < 0) : ∀ j, j < m + 1 → ord j < 0 := by
  intro j hj
  by_cases e : j = m
  · rw [e]; exact hc
  · refine Int.lt_of_not_ge fun h0 => ?_
    have := hmono j m (by omega) hm h0
    omega
theorem bs_down {n : Nat} {ord : Nat → Int} {m : Nat} (hmono : ∀ i j, i < j → j < n → 0 ≤ ord i → 0 < ord j) (hc : ¬ ord m < 0) : ∀ j, m ≤ j → j < n → 0 ≤ ord j := by
  intro j hj hn
  by_cases e : j = m
  · rw [e]; omega
  · have := hmono m j (by omega) hn (by omega)
    omega
/-- What the comparison answers at the i-th share. -/
def ordAt (E : Nat → Int) (q : Int) (i : Nat) : Int := wrap64 (E i - q)

set_option maxRecDepth 100000 in
set_option maxHeartbeats 1000000 in
theorem search (a : Option Addr) (n cap : Nat) (E : Nat → Int) (P : Nat → List Value) (q : Int) (w : World) (hn : n ≤ 1048576) (hd : Sh w a n E P) (hP : ∀ i, i < n → (P i).length = 33)
    (hmono : ∀ i j, i < j → j < n → 0 ≤ ordAt E q i → 0 < ordAt E q j) :
    Calls Try.prog 20 #[.slice a n cap, .int .i64 q, .func (.func 21) #[] #[]] w fun e w' => ∃ i : Nat, ∃ f : Bool, e = .returned (.tuple #[.int .i64 i, .bool f]) ∧ i ≤ n ∧ (∀ j, j < i → ordAt E q j < 0) ∧ (∀ j, i ≤ j → j < n → 0 ≤ ordAt E q j) ∧
      (f = true ↔ i < n ∧ ordAt E q i = 0) ∧ Below w.heap.size w w' := by
  go_enter Try.func20, Try.ntmps20
  go_wp2_with fail
  go_loopw [9, 10] (fun i j wr => ∃ l h : Nat, l ≤ h ∧ h ≤ n ∧ i = .int .i64 l ∧ j = .int .i64 h ∧ (∀ j, j < l → ordAt E q j < 0) ∧ (∀ j, h ≤ j → j < n → 0 ≤ ordAt E q j) ∧ Below w.heap.size w wr) (fun i j _ => (intOf j).toNat - (intOf i).toNat)
  case atStart => exact ⟨0, n, Nat.zero_le _, Nat.le_refl _, rfl, rfl, fun j hj => by omega, fun j h1 h2 => by omega, Below.refl _ _⟩
  case round =>
    obtain ⟨l, h, hlh, hhn, rfl, rfl, h1, h2, hbel⟩ := hrel
    have H1 : Hid _ := h1
    have H2 : Hid _ := h2
    clear h1 h2
    have kne := kinNe wr
    by_cases hlt : l < h
    · obtain ⟨g, off, rfl, hg, hr⟩ := hd ((l + h) / 2) (by omega)
      have hP1 := hP ((l + h) / 2) (by omega)
      have hgr : g < wr.heap.size := Nat.lt_of_lt_of_le hg hbel.size
      have HR : Hid (wr.rangeAt g (off + (l + h) / 2 * 34) (.int .i64 (E ((l + h) / 2)) :: P ((l + h) / 2))) := range_below hr hbel hg
      have HL : Hid ((Try.prog.info? 47).map (·.size) = some (Value.int .i64 (E ((l + h) / 2)) :: P ((l + h) / 2)).length) := by show _ = _; rw [size47]; simp [hP1]
      clear hd hP hr hP1
      have hbd : 0 ≤ ((l : Int) + (h : Int)) / 2 ∧ ((l : Int) + (h : Int)) / 2 < (n : Int) := by omega
      have hT : (((l : Int) + (h : Int)) / 2).toNat = (l + h) / 2 := by omega
      go_wp2_with (refine wpList_load_mid rfl 47 _ rfl g _ rfl _ _ HR.out Try.underlying47 rfl HL.out ?_)
      refine (cmp _ _ _ _).mono ?_
      rintro e w1 ⟨rfl, hb1⟩
      have hb2 : Below w.heap.size w w1 := hbel.trans (hb1.mono hbel.size)
      clear hb1 hbel
      go_wp2
      · have hc : wrap64 (E ((l + h) / 2) - q) < 0 := by assumption
        go_roundw
        case rel => exact ⟨(l + h) / 2 + 1, h, by omega, hhn, by go_num, rfl, bs_up (ord := ordAt E q) hmono (by omega) hc, H2.out, hb2⟩
        case measure => simp [intOf]; omega
      · have hc : ¬ wrap64 (E ((l + h) / 2) - q) < 0 := by omega
        go_roundw
        case rel => exact ⟨l, (l + h) / 2, by omega, by omega, rfl, by go_num, H1.out, bs_down (ord := ordAt E q) hmono hc, hb2⟩
        case measure => simp [intOf]; omega
    · have e : h = l := by omega
      subst e
      by_cases hln : h < n
      · obtain ⟨g, off, rfl, hg, hr⟩ := hd h hln
        have hP1 := hP h hln
        have hgr : g < wr.heap.size := Nat.lt_of_lt_of_le hg hbel.size
        have HR : Hid (wr.rangeAt g (off + h * 34) (.int .i64 (E h) :: P h)) := range_below hr hbel hg
        have HL : Hid ((Try.prog.info? 47).map (·.size) = some (Value.int .i64 (E h) :: P h).length) := by show _ = _; rw [size47]; simp [hP1]
        clear hd hP hr hP1
        have hd1 : decide ((h : Int) < (n : Int)) = true := by simp; omega
        have hbd : 0 ≤ (h : Int) ∧ (h : Int) < (n : Int) := by omega
        go_wp2_with (refine wpList_load_on 47 _ rfl rfl g _ rfl _ _ HR.out Try.underlying47 rfl HL.out ?_)
        refine (cmp _ _ _ _).mono ?_
        rintro e w1 ⟨rfl, hb1⟩
        have hb2 : Below w.heap.size w w1 := hbel.trans (hb1.mono hbel.size)
        clear hb1 hbel
        go_wp2
        go_ret2
        refine ⟨h, _, rfl, by omega, H1.out, H2.out, ?_, hb2⟩
        simp [ordAt, hln]
      · have hd1 : decide ((h : Int) < (n : Int)) = false := by simp; omega
        clear hd hP
        go_wp2_with fail
        go_ret2
        refine ⟨h, _, rfl, by omega, H1.out, H2.out, ?_, hbel⟩
        simp [hln]
end Go.Proofs.Qxb6609552a
