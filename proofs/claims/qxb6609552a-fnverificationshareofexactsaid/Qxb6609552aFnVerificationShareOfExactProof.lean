/-
  The proof of 'Rows.FnVerificationShareOfExactSaid': the frame after the guide's shell, the walk ('main_walk') ours.
-/
import Derived.Test.Qxb6609552aMain
import Derived.ProofKit
import Derived.OpenShut
import Derived.ShutString
import Derived.ChangeOld
import Derived.Below
import Derived.Deep.Slices
namespace Go.Proofs.Qxb6609552a.fnVerificationShareOfExact
open Go.ChangeShapes Go.WideShapes Go.ChangeAt Go.RowKit Go.Deep
set_option linter.unusedVariables false

theorem own : ownKnob Try.prog.godebug = none := by kernel_rfl
theorem laidOut : laidOutB Try.prog = true := by kernel_rfl

theorem point {H : Type} {enc : TypeId × Value → H} {W : World} {spare : Nat → Bool} {held : Bool} {fuel : Nat} {cs : List Value} {x : DataW H × List MemPlace} (h : DataW.trod enc Try.prog W 0 spare held fuel 27 cs = some x) : Pnt cs := by
  obtain ⟨xs, m, rfl, hx, hl, hxl, hall⟩ := DataW.trod_array Try.underlying27 h
  have hc27 : Try.prog.cellsOf 27 = 33 := by kernel_rfl
  have hc5 : Try.prog.cellsOf 5 = 1 := by kernel_rfl
  rw [hc27] at hl
  refine ⟨hl, fun v hv => ?_⟩
  obtain ⟨i, hi, rfl⟩ := List.mem_iff_getElem.1 hv
  have hi33 : i < 33 := by omega
  have := hall i hi33
  rw [hc5, Nat.mul_one, List.getElem?_eq_getElem (by omega)] at this
  obtain ⟨z, hz, _⟩ := DataW.trod_int Try.underlying5 this
  have h0 := congrArg (·[0]?) hz
  simp [List.getElem?_drop] at h0
  exact ⟨z, by rw [List.getElem?_eq_getElem hi] at h0; exact Option.some.inj h0⟩

theorem shares {H : Type} {enc : TypeId × Value → H} {W : World} {spare : Nat → Bool} {held : Bool} {a : Option Addr} {len cap : Nat} {d : DataW H} {p : List MemPlace} (h : DataW.Trod enc Try.prog W 0 spare held 29 (.slice a len cap) d p) :
    ∃ (E : Nat → Int) (P : Nat → List Value), len ≤ maxLen ∧ (a = none → len = 0 ∧ cap = 0) ∧ Sh W a len E P ∧ (∀ i, i < len → Pnt (P i)) ∧ ∀ i, i < len → -9223372036854775808 ≤ E i ∧ E i ≤ 9223372036854775807 := by
  obtain ⟨fuel, hf⟩ := h
  rcases open_slice Try.underlying29 hf with ⟨hcs, _⟩ | ⟨x, l, c, m, n', D, Pl, hcs, _, hl, hm, hme, _, hel⟩
  · simp [Value.cells] at hcs
    obtain ⟨rfl, rfl, rfl⟩ := hcs
    exact ⟨fun _ => 0, fun _ => [], Nat.zero_le _, fun _ => ⟨rfl, rfl⟩, fun i hi => by omega, fun i hi => by omega, fun i hi => by omega⟩
  · simp [Value.cells] at hcs
    obtain ⟨rfl, rfl, rfl⟩ := hcs
    have hc32 : Try.prog.cellsOf 32 = 34 := by kernel_rfl
    have hc3 : Try.prog.cellsOf 3 = 1 := by kernel_rfl
    have hc27 : Try.prog.cellsOf 27 = 33 := by kernel_rfl
    have hlm : len ≤ m := by rw [hme]; split <;> omega
    have each : ∀ i, i < len → ∃ (z : Int) (l : List Value), (-9223372036854775808 ≤ z ∧ z ≤ 9223372036854775807) ∧ Pnt l ∧ ∀ j v, (Value.int .i64 z :: l)[j]? = some v → W.cell? ((x.add (i * 34)).add j) = some v := fun i hi => by
      obtain ⟨cs', hc', ht⟩ := hel i (by omega)
      rw [hc32] at hc'
      obtain ⟨_, hlen', hcell⟩ := World.cells?_some hc'
      obtain ⟨y0, y1, n2, _, _, t0, t1⟩ := trod_struct2 Try.underlying32 ht
      obtain ⟨z, hz, _, hw⟩ := DataW.trod_int Try.underlying3 t0
      have hp := point t1
      rw [hc3] at hz
      rw [hc27] at hp
      have he : cs' = Value.int .i64 z :: (cs'.drop 1).take 33 := by
        have e1 : (cs'.drop 1).take 33 = cs'.drop 1 := List.take_of_length_le (by simp; omega)
        rw [e1]
        obtain ⟨c, r, e2⟩ : ∃ c r, cs' = c :: r := by
          cases cs' with
          | nil => exact absurd hlen' (by decide)
          | cons c r => exact ⟨c, r, rfl⟩
        rw [e2] at hz ⊢
        have e3 : c = Value.int .i64 z := List.head_eq_of_cons_eq (show c :: [] = Value.int .i64 z :: [] from hz)
        rw [e3]
        rfl
      have hb := bounds_i64 hw
      refine ⟨z, _, ⟨hb.1, hb.2⟩, hp, fun j v hv => ?_⟩
      rw [← he] at hv
      have hj : j < 34 := by have := (List.getElem?_eq_some_iff.1 hv).1; omega
      rw [hcell j hj, hv]
    classical
    refine ⟨fun i => if h : i < len then (each i h).choose else 0, fun i => if h : i < len then (each i h).choose_spec.choose else [], Nat.le_trans hl hm, fun h => absurd h (by simp), fun i hi => ?_, fun i hi => ?_, fun i hi => ?_⟩
    · have hs := (each i hi).choose_spec.choose_spec.2.2
      obtain ⟨b, off, spot⟩ := x
      have h0 := (each 0 (by omega)).choose_spec.choose_spec.2.2 0 _ rfl
      have hspot : spot = none := by simpa [Addr.add] using World.cell?_spot h0
      subst hspot
      have hrange : W.rangeAt b (off + i * 34) (el (fun i => if h : i < len then (each i h).choose else 0) (fun i => if h : i < len then (each i h).choose_spec.choose else []) i) := by
        intro j v hv
        simp only [el, dif_pos hi] at hv
        have := hs j v hv
        rw [Addr.add_mid, Addr.add_mid] at this
        exact this
      exact ⟨b, off, rfl, World.block_lt_of_cell? W _ (hrange 0 _ rfl), hrange⟩
    · simp only [dif_pos hi]
      exact (each i hi).choose_spec.choose_spec.2.1
    · simp only [dif_pos hi]
      exact (each i hi).choose_spec.choose_spec.1

set_option maxRecDepth 100000 in
theorem lifted (os : Os) (started : os.Started) (H : Type) (enc : TypeId × Value → H) :
    ReturnsInHanded {} Try.checked os 4 .any (Rows.fnVerificationShareOfExactSpec.pre6 enc Try.prog Try.f4 Rows.fnVerificationShareOfExactRow.domain false) (Rows.fnVerificationShareOfExactSpec.post enc Try.prog Try.f4 false true false false) := by
  refine returnsInHanded_of_change (C := Try.checked) own started (by kernel_rfl) Try.func4
    (ChangeSpec.witness6 (enc := enc) (C := Try.checked) false ⟨#[], #[.int .i64 0, .agg zeros.toArray, .int .i64 0, .int .i64 0, .agg (List.replicate 16 (.int .u8 0)).toArray, .slice none 0 0, .int .i64 0], []⟩ 60 (by kernel_rfl) (by kernel_rfl) (by kernel_rfl) (by kernel_rfl)) ?_
  intro W base args ds gs before hval0 hW hcnd _
  have hval : ∀ (j : Nat) t v, Try.f4.params[j]? = some t → args[j]? = some v → Value.okWide Try.prog W .any base t v := hval0
  have hW' := hW
  obtain ⟨p, q, hA0, hV, rfl, hfz, hnd⟩ := hW
  have hA : DataW.TrodAll enc Try.prog W 0 (fun _ => true) true Try.f4.params.toList args.toList ds p := hA0
  rw [Try.params4] at hA hval
  obtain ⟨v0, vs0, d0, ds0, p0, q0, hargs, rfl, rfl, h0, r0⟩ := trodAll_cons hA
  obtain ⟨v1, vs1, d1, ds1, p1, q1, rfl, rfl, rfl, h1, r1⟩ := trodAll_cons r0
  obtain ⟨v2, vs2, d2, ds2, p2, q2, rfl, rfl, rfl, h2, r2⟩ := trodAll_cons r1
  obtain ⟨v3, vs3, d3, ds3, p3, q3, rfl, rfl, rfl, h3, r3⟩ := trodAll_cons r2
  obtain ⟨v4, vs4, d4, ds4, p4, q4, rfl, rfl, rfl, h4, r4⟩ := trodAll_cons r3
  obtain ⟨v5, vs5, d5, ds5, p5, q5, rfl, rfl, rfl, h5, r5⟩ := trodAll_cons r4
  obtain ⟨v6, vs6, d6, ds6, p6, q6, rfl, rfl, rfl, h6, r6⟩ := trodAll_cons r5
  obtain ⟨rfl, rfl, rfl⟩ := trodAll_nil r6
  obtain rfl : args = #[v0, v1, v2, v3, v4, v5, v6] := by cases args; simp_all
  obtain ⟨rfl, rfl⟩ := trodVars_none hV
  obtain ⟨c0, rfl, rfl, rfl, w0⟩ := open_int Try.underlying3 (hval 0 3 v0 rfl rfl) h0
  obtain ⟨c2, rfl, rfl, rfl, w2⟩ := open_int Try.underlying3 (hval 2 3 v2 rfl rfl) h2
  obtain ⟨c3, rfl, rfl, rfl, w3⟩ := open_int Try.underlying3 (hval 3 3 v3 rfl rfl) h3
  obtain ⟨c6, rfl, rfl, rfl, w6⟩ := open_int Try.underlying3 (hval 6 3 v6 rfl rfl) h6
  obtain ⟨a5, len5, cap5, rfl⟩ := okWide_slice Try.underlying29 (hval 5 29 v5 rfl rfl)
  have lt5 : ∀ x ∈ p5, x.block < W.heap.size := by obtain ⟨m, hm⟩ := h5; exact DataW.trod_lt m _ _ _ hm
  have lt1 : ∀ x ∈ p1, x.block < W.heap.size := by obtain ⟨m, hm⟩ := h1; exact DataW.trod_lt m _ _ _ hm
  have lt4 : ∀ x ∈ p4, x.block < W.heap.size := by obtain ⟨m, hm⟩ := h4; exact DataW.trod_lt m _ _ _ hm
  obtain ⟨gk, rfl, hgk⟩ : ∃ cs, v1 = .agg cs ∧ cs.size = 33 := by
    have h := hval 1 27 v1 rfl rfl
    simp only [Value.okWide, Try.underlying27] at h
    obtain ⟨cs, e, hs, _⟩ := h
    exact ⟨cs, e, by rw [hs]; kernel_rfl⟩
  obtain ⟨gen, rfl, hgen⟩ : ∃ cs, v4 = .agg cs ∧ cs.size = 16 := by
    have h := hval 4 28 v4 rfl rfl
    simp only [Value.okWide, Try.underlying28] at h
    obtain ⟨cs, e, hs, _⟩ := h
    exact ⟨cs, e, by rw [hs]; kernel_rfl⟩
  obtain ⟨E, P, hlen, hnil, hd, hP, hE⟩ := shares h5
  have hbd := bounds_i64 w6
  refine (main_walk c0 c2 c3 c6 gk gen a5 len5 cap5 E P W hlen hnil hgk hgen hd hP hE ⟨hbd.1, hbd.2⟩).mono fun e W' ⟨he, bel⟩ => ?_
  subst he
  exact ⟨_, rfl, _, _, _, [], _, [], hW', trodAll_mk1 (shut_bool Try.underlying4 _),
    (trodAll_cons_mk (shut_int Try.underlying3 w0) (trodAll_cons_mk (Below.trod laidOut (by kernel_rfl) (of_decide_eq_true (by kernel_rfl)) h1 bel lt1) (trodAll_cons_mk (shut_int Try.underlying3 w2) (trodAll_cons_mk (shut_int Try.underlying3 w3)
      (trodAll_cons_mk (Below.trod laidOut (by kernel_rfl) (of_decide_eq_true (by kernel_rfl)) h4 bel lt4) (trodAll_cons_mk (Below.trod laidOut (by kernel_rfl) (of_decide_eq_true (by kernel_rfl)) h5 bel lt5) (trodAll_cons_mk (shut_int Try.underlying3 w6) trodAll_mk0))))))), rfl, bel.frame _, fun h => by cases h⟩

theorem over : Rows.fnVerificationShareOfExactRow.holds Try.pinned (OpenSpec.ofChange Rows.fnVerificationShareOfExactSpec) :=
  OpenClaim.holds_of_wide 4 Try.f4 rfl rfl rfl rfl rfl rfl rfl ⟨rfl, rfl, rfl, rfl, rfl⟩ rfl rfl rfl rfl rfl (by kernel_rfl) Try.func4 (by kernel_rfl)
    (of_decide_eq_true (by kernel_rfl)) (by unfold Func.isWrapper; first | (rw [if_pos (by decide +kernel)]; kernel_rfl) | (rw [if_neg (by decide +kernel)]; exact ⟨rfl, rfl⟩))
    (fun os started H enc _ => lifted os started H enc)

/-- THE STATEMENT -/
theorem proved : Rows.FnVerificationShareOfExactSaid := over
#print axioms proved
end Go.Proofs.Qxb6609552a.fnVerificationShareOfExact
