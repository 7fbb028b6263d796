import Derived.Test.Qxb6609552aShare
namespace Go.Proofs.Qxb6609552a
open Go.RowKit

/-- 33 bytes that are all nought. -/
def zeros : List Value := List.replicate 33 (.int .u8 0)
/-- Loads and stores of 33 cells under names of their own. -/
def L35 (v : Value) : Sem Value := Instr.loadAt 35 v
def S35 (p v : Value) : Sem Unit := Instr.storeAt 35 p v
theorem l35 (v : Value) : Instr.loadAt 35 v = L35 v := rfl
theorem s35 (p v : Value) : Instr.storeAt 35 p v = S35 p v := rfl
theorem run_L35 (w : World) (g o : Nat) (h : Has w g o) : (L35 (.pointer (some ⟨g, o, none⟩))).run Try.prog w = .ok (.agg (rd w g o).toArray) w := load35 h (by simp [rd])
theorem run_S35 (w : World) (b o : Nat) (l : List Value) (hl : Ones l) (ht : w.there b o 33) : (S35 (.pointer (some ⟨b, o, none⟩)) (.agg l.toArray)).run Try.prog w = .ok () (w.setCells b o l) :=
  run_storeAt_mid w b o 35 _ (by simpa [hl.1] using ht) (by rw [size35]; simp [hl.1]) (all_oneCell_toArray hl.2)
def B35 (parts : Array (Nat × Value)) : Sem Value := Instr.build 35 parts
theorem b35 (parts : Array (Nat × Value)) : Instr.build 35 parts = B35 parts := rfl
theorem run_B35 (w : World) : (B35 #[]).run Try.prog w = .ok (.agg zeros.toArray) w := run_build w 35 #[] zeros.toArray (by kernel_rfl)
theorem ones_zeros : Ones zeros := ⟨by decide, fun v hv => by rw [List.eq_of_mem_replicate hv]; rfl⟩
attribute [local go_sem ↓] l35 s35 b35
attribute [local go_sem] run_L35 run_S35 run_B35

theorem share (c0 c2 c3 : Int) (gk gen : Array Value) (a : Option Addr) (n cap : Nat) (E : Nat → Int) (P : Nat → List Value) (w : World) (hn : n ≤ 1048576) (hnil : a = none → n = 0 ∧ cap = 0) (hgk : gk.size = 33) (hgen : gen.size = 16)
    (hd : Sh w a n E P) (hP : ∀ i, i < n → Pnt (P i)) :
    Calls Try.prog 10 #[.int .i64 c0, .agg gk, .int .i64 c2, .int .i64 c3, .agg gen, .slice a n cap] w fun e w' => ∃ (sb : Nat) (a' : Option Addr) (cap' : Nat), e = .returned (.pointer (some ⟨sb, 0, none⟩)) ∧ w'.cell? ⟨sb, 52, none⟩ = some (.slice a' n cap') ∧ Sh w' a' n E P ∧ Below w.heap.size w w' := by
  cases a with
  | none =>
    obtain ⟨rfl, rfl⟩ := hnil rfl
    exact share_nil c0 c2 c3 gk gen E P w hgk hgen
  | some ad =>
    obtain ⟨g, off, spot⟩ := ad
    have h : ∀ i, i < n → spot = none ∧ g < w.heap.size ∧ w.rangeAt g (off + i * 34) (el E P i) := fun i hi => by
      obtain ⟨g', off', e, hg, hr⟩ := hd i hi
      cases e
      exact ⟨rfl, hg, hr⟩
    exact share_some c0 c2 c3 gk gen g off n cap spot (fun h0 => (h 0 h0).1) E P w hn hgk hgen (fun i hi => (h i hi).2.2) (fun h0 => (h 0 h0).2.1) hP

theorem results_cell2 {P : Program} {w : World} {fn : Func} {t u : Tmp} {ty : TypeId} (h : fn.results = #[.cell t ty, .tmp u]) (tmps : Array Value) (ad : Addr) (hp : tmps.getD t undef = .pointer (some ad)) (v : Value)
    (hv : (loadVar ty ad).run P w = .ok v w) : (results fn tmps).run P w = .ok (.tuple #[v, tmps.getD u undef]) w := by
  simp only [Array.getD_eq_getD_getElem?] at hp
  simp [results, h, hp, asAddr, hv]
theorem loadVar35 {w : World} {g o : Nat} {l : List Value} (h : w.rangeAt g o l) (hl : l.length = 33) : (loadVar 35 ⟨g, o, none⟩).run Try.prog w = .ok (.agg l.toArray) w := by
  obtain ⟨d, h1, h2⟩ := und35
  exact run_loadVar_mid w g o 35 _ d h h1 h2 (by rw [size35]; simp [hl])

set_option maxRecDepth 100000 in
set_option maxHeartbeats 1000000 in
theorem shareOf (sb : Nat) (q : Int) (a : Option Addr) (n cap : Nat) (E : Nat → Int) (P : Nat → List Value) (w : World) (hn : n ≤ 1048576) (hc : w.cell? ⟨sb, 52, none⟩ = some (.slice a n cap)) (hd : Sh w a n E P) (hP : ∀ i, i < n → Pnt (P i))
    (hmono : ∀ i j, i < j → j < n → 0 ≤ ordAt E q i → 0 < ordAt E q j) :
    Calls Try.prog 11 #[.pointer (some ⟨sb, 0, none⟩), .int .i64 q] w fun e w' => ∃ i : Nat, ∃ f : Bool, e = .returned (.tuple #[.agg (if f then P i else zeros).toArray, .bool f]) ∧ i ≤ n ∧ (∀ j, j < i → ordAt E q j < 0) ∧ (∀ j, i ≤ j → j < n → 0 ≤ ordAt E q j) ∧
      (f = true ↔ i < n ∧ ordAt E q i = 0) ∧ Below w.heap.size w w' := by
  have HP : Hid (∀ i, i < n → (P i).length = 33) := fun i hi => (hP i hi).1
  have HM : Hid _ := hmono
  have hsb : sb < w.heap.size := World.block_lt_of_cell? w _ hc
  clear hmono
  go_enter Try.func11, Try.ntmps11
  go_wp2_with fail
  have hb0 : Below w.heap.size w (w.alloc (.cells zeros.toArray 35)) := (Below.refl _ _).alloc (Nat.le_refl _) _
  refine Calls.mono (search a n cap E P q (w.alloc (.cells zeros.toArray 35)) hn (hd.below hb0) HP.out HM.out) ?_
  rintro e w1 ⟨i, f, rfl, hi, h1, h2, hf, hb1⟩
  have hw1 : Below w.heap.size w w1 := hb0.trans (hb1.mono (by simp))
  have hth : w1.there w.heap.size 0 33 := fun j hj => by
    refine ⟨?_, (hb1.frozen (p := ⟨w.heap.size, 0 + j, none⟩) (by simp)).trans (by simp)⟩
    rw [hb1.cell (p := ⟨w.heap.size, 0 + j, none⟩) (by simp)]
    simp [zeros]; omega
  have hc1 : w1.cell? ⟨sb, 52, none⟩ = some (.slice a n cap) := (hw1.cell (p := ⟨sb, 52, none⟩) hsb).trans hc
  have H1 : Hid _ := h1
  have H2 : Hid _ := h2
  have HF : Hid _ := hf
  clear h1 h2 hf
  have hOz := ones_zeros
  cases f with
  | false =>
    go_wp2_with fail
    refine bodyPost_ret (v := .tuple #[.agg zeros.toArray, .bool false]) (results_cell2 (t := 4) (u := 5) (ty := 35) rfl _ ⟨w.heap.size, 0, none⟩ rfl _ (loadVar35 (World.rangeAt_setCells_same _ _ _ _ hth) rfl)) rfl ?_
    exact ⟨i, false, rfl, hi, H1.out, H2.out, HF.out, below_setCells (Nat.le_refl _) _ _ _ hw1⟩
  | true =>
    have HO : Hid _ := HF.out.1 rfl
    obtain ⟨hin, ho⟩ := HO.out
    clear HF
    obtain ⟨g, off, rfl, hg, hr⟩ := hd i hin
    have hPk := HP.out i hin
    have hr1 : w1.rangeAt g (off + i * 34 + 1) (P i) := fun j v hv => by
      have := (range_below hr hw1 hg) (j + 1) v hv
      rw [show off + i * 34 + 1 + j = off + i * 34 + (j + 1) from by omega]; exact this
    have hh : Has w1 g (off + i * 34 + 1) := has_of hr1 hPk
    have hrd : rd w1 g (off + i * 34 + 1) = P i := rd_of hr1 hPk
    have hon : Ones (P i) := ⟨hPk, fun v hv => by obtain ⟨z, rfl⟩ := (hP i hin).2 v hv; rfl⟩
    have hbd : 0 ≤ (i : Int) ∧ (i : Int) < (n : Int) := by omega
    clear hr hr1 hP ho hc hd
    go_wp2_with fail
    refine bodyPost_ret (v := .tuple #[.agg (P i).toArray, .bool true]) (results_cell2 (t := 4) (u := 5) (ty := 35) rfl _ ⟨w.heap.size, 0, none⟩ rfl _ (loadVar35 (World.rangeAt_setCells_same _ _ _ _ (by rw [hPk]; exact hth)) hPk)) rfl ?_
    exact ⟨i, true, rfl, hi, H1.out, H2.out, ⟨fun _ => HO.out, fun _ => rfl⟩, below_setCells (Nat.le_refl _) _ _ _ hw1⟩
end Go.Proofs.Qxb6609552a
