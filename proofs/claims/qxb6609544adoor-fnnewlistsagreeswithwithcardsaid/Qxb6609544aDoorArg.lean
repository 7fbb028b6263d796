import Derived.Test.Qxb6609544aDoorPre
import Derived.Deep.MidRow
import Derived.ProofKit
import Derived.OpenShut
import Derived.ShutString
import Derived.ChangeOld
import Derived.ChangeSame
import Derived.Below
import Derived.Deep.Slices
import Derived.LaidLaws
import Derived.LaidHandle
import Derived.Stop.Joined
import Derived.MakeChecks
namespace Go.Proofs.Qxb6609544aDoor
open Go.ChangeShapes Go.WideShapes Go.ChangeAt Go.RowKit Go.Deep

theorem g4 : Tryd.prog.globalNamed "net/netip.z4" = some 0 := by kernel_rfl
theorem g0 : Tryd.prog.globalNamed "net/netip.z0" = some 1 := by kernel_rfl
theorem t4 : (Tryd.prog.globals[0]?).map (·.type) = some 45 := by kernel_rfl
theorem t0 : (Tryd.prog.globals[1]?).map (·.type) = some 45 := by kernel_rfl
theorem nil_of_trod {H : Type} {enc : TypeId × Value → H} {P : Program} {W : World} {base : Nat} {sp : Nat → Bool} {held : Bool} {fuel : Nat} {t e : TypeId} {cs : List Value} {p : List MemPlace} (ht : P.underlying t = some (.pointer e))
    (h : DataW.trod enc P W base sp held fuel t cs = some (.nil, p)) : cs = [.pointer none] := by
  cases fuel with
  | zero => simp [DataW.trod] at h
  | succ fuel =>
    match cs with
    | [] => simp [DataW.trod, ht] at h
    | _ :: _ :: _ => simp [DataW.trod, ht] at h
    | [c] =>
      cases c <;> simp [DataW.trod, ht] at h
      rename_i o
      cases o with
      | none => rfl
      | some a => simp [Option.bind_eq_some_iff] at h
theorem zed_of_laid {W : World} (h : laidMetH Tryd.prog [("net/netip.z4", Rows.laid_net_netip_z4), ("net/netip.z0", Rows.laid_net_netip_z0)] W) : ∃ zp, Zed W zp := by
  rw [MakeChecks.laidMetH_plain _ _ _ (by kernel_rfl)] at h
  obtain ⟨ps, ⟨a0, ty0, cs0, f0, p0, q0, hg0, ht0, hv0, hd0, ⟨a1, ty1, cs1, f1, p1, q1, hg1, ht1, hv1, hd1, _, _⟩, _⟩, _, _⟩ := h
  obtain rfl := Option.some.inj (g4.symm.trans hg0)
  obtain rfl := Option.some.inj (g0.symm.trans hg1)
  obtain rfl := Option.some.inj (t4.symm.trans ht0)
  obtain rfl := Option.some.inj (t0.symm.trans ht1)
  obtain ⟨y0, n0, hy0, hl0, hk0⟩ := trod_struct1 Tryd.underlying45 hd0
  obtain ⟨y1, n1, hy1, hl1, hk1⟩ := trod_struct1 Tryd.underlying45 hd1
  have hc43 : Tryd.prog.cellsOf 43 = 1 := by kernel_rfl
  have hc45 : Tryd.prog.cellsOf 45 = 1 := by kernel_rfl
  simp only [Rows.laid_net_netip_z4, Rows.laid_net_netip_z0, Prod.mk.injEq, DataW.agg.injEq, List.cons.injEq, and_true] at hy0 hy1
  obtain ⟨d0, r0⟩ := y0
  obtain ⟨d1, r1⟩ := y1
  obtain ⟨rfl, rfl⟩ := hy0
  obtain ⟨rfl, rfl⟩ := hy1
  obtain ⟨_, zp, _, _, hz, _⟩ := ptr_of_trod Tryd.underlying43 hk0
  have hz1 := nil_of_trod Tryd.underlying43 hk1
  rw [hc45] at hl0 hl1
  have e0 : cs0 = #[.pointer (some zp)] := by
    obtain ⟨x, hx⟩ := List.length_eq_one_iff.1 hl0
    rw [hc43, hx] at hz
    obtain ⟨l⟩ := cs0
    exact congrArg List.toArray (hx.trans hz)
  have e1 : cs1 = #[.pointer none] := by
    obtain ⟨x, hx⟩ := List.length_eq_one_iff.1 hl1
    rw [hc43, hx] at hz1
    obtain ⟨l⟩ := cs1
    exact congrArg List.toArray (hx.trans hz1)
  subst e0 e1
  have c0 := World.var?_cell hg0 hv0 0
  have c1 := World.var?_cell hg1 hv1 0
  refine ⟨zp, by simpa using c0, by simpa using c1, ?_⟩
  have := cell_lt (by simpa using c1 : W.cell? ⟨1, 0, none⟩ = some (.pointer none))
  omega
theorem four_of {l : List Value} (h : l.length = 4) : ∃ a b c d, l = [a, b, c, d] := by
  match l, h with
  | [a, b, c, d], _ => exact ⟨a, b, c, d, rfl⟩
theorem four {H : Type} {enc : TypeId × Value → H} {W : World} {spare : Nat → Bool} {held : Bool} {fuel : Nat} {cs : List Value} {x : DataW H × List MemPlace} (h : DataW.trod enc Tryd.prog W 0 spare held fuel 35 cs = some x) : ∃ v : Int, (0 ≤ v ∧ v < 4294967296) ∧ cs = (by4 v).toList := by
  obtain ⟨xs, m, rfl, hx, hl, hxl, hall⟩ := DataW.trod_array Tryd.underlying35 h
  have hc35 : Tryd.prog.cellsOf 35 = 4 := by kernel_rfl
  have hc5 : Tryd.prog.cellsOf 5 = 1 := by kernel_rfl
  rw [hc35] at hl
  obtain ⟨c0, c1, c2, c3, rfl⟩ := four_of hl
  have key : ∀ i, i < 4 → ∃ z : Int, (0 ≤ z ∧ z ≤ 255) ∧ ([c0, c1, c2, c3].drop i).take 1 = [.int .u8 z] := fun i hi => by
    have := hall i hi
    rw [hc5, Nat.mul_one, List.getElem?_eq_getElem (by omega)] at this
    obtain ⟨z, hz, _, hw⟩ := DataW.trod_int Tryd.underlying5 this
    exact ⟨z, bounds_u8 hw, hz⟩
  obtain ⟨z0, b0, e0⟩ := key 0 (by omega)
  obtain ⟨z1, b1, e1⟩ := key 1 (by omega)
  obtain ⟨z2, b2, e2⟩ := key 2 (by omega)
  obtain ⟨z3, b3, e3⟩ := key 3 (by omega)
  simp at e0 e1 e2 e3
  subst e0 e1 e2 e3
  refine ⟨num4 z0 z1 z2 z3, by unfold num4; omega, ?_⟩
  rw [by4_num z0 z1 z2 z3 ⟨b0, b1, b2, b3⟩]
theorem ranges {H : Type} {enc : TypeId × Value → H} {W : World} {spare : Nat → Bool} {held : Bool} {a : Option Addr} {len cap : Nat} {d : DataW H} {p : List MemPlace} (h : DataW.Trod enc Tryd.prog W 0 spare held 22 (.slice a len cap) d p) :
    ∃ L : List (Int × Int), len ≤ maxLen ∧ Rs W a len L ∧ ∀ x ∈ L, Okx x := by
  obtain ⟨fuel, hf⟩ := h
  rcases open_slice Tryd.underlying22 hf with ⟨hcs, _⟩ | ⟨x, l, c, m, n', D, Pl, hcs, _, hl, hm, hme, _, hel⟩
  · simp [Value.cells] at hcs
    obtain ⟨rfl, rfl, rfl⟩ := hcs
    exact ⟨[], Nat.zero_le _, ⟨rfl, Or.inl rfl⟩, fun x hx => absurd hx (by simp)⟩
  · simp [Value.cells] at hcs
    obtain ⟨rfl, rfl, rfl⟩ := hcs
    have hc37 : Tryd.prog.cellsOf 37 = 8 := by kernel_rfl
    have hc35 : Tryd.prog.cellsOf 35 = 4 := by kernel_rfl
    have hlm : len ≤ m := by rw [hme]; split <;> omega
    have each : ∀ i, i < len → ∃ y : Int × Int, Okx y ∧ ∀ j, j < 8 → W.cell? ((x.add (i * 8)).add j) = (encR y)[j]? := fun i hi => by
      obtain ⟨cs', hc', ht⟩ := hel i (by omega)
      rw [hc37] at hc'
      obtain ⟨_, hlen', hcell⟩ := World.cells?_some hc'
      obtain ⟨y0, y1, n2, _, _, t0, t1⟩ := trod_struct2 Tryd.underlying37 ht
      rw [hc35] at t0 t1
      obtain ⟨v0, b0, e0⟩ := four t0
      obtain ⟨v1, b1, e1⟩ := four t1
      refine ⟨(v0, v1), ⟨b0.1, b0.2, b1.1, b1.2⟩, fun j hj => ?_⟩
      have he : cs' = encR (v0, v1) := by
        have s1 : cs' = cs'.take 4 ++ cs'.drop 4 := (List.take_append_drop 4 cs').symm
        have s2 : (cs'.drop 4).take 4 = cs'.drop 4 := List.take_of_length_le (by simp; omega)
        have e0' : cs'.take 4 = (by4 v0).toList := e0
        have e1' : (cs'.drop 4).take 4 = (by4 v1).toList := e1
        rw [s1, e0', ← s2, e1']
        rfl
      rw [hcell j hj, he]
    classical
    have hex : ∃ f : Nat → Int × Int, ∀ i, i < len → Okx (f i) ∧ ∀ j, j < 8 → W.cell? ((x.add (i * 8)).add j) = (encR (f i))[j]? :=
      ⟨fun i => if h : i < len then (each i h).choose else (0, 0), fun i hi => by simp only [dif_pos hi]; exact (each i hi).choose_spec⟩
    obtain ⟨f, hf'⟩ := hex
    refine ⟨(List.range len).map f, Nat.le_trans hl hm, ⟨by simp, ?_⟩, fun y hy => ?_⟩
    · by_cases h0 : len = 0
      · exact Or.inl h0
      · obtain ⟨b, off, spot⟩ := x
        have h1 := (hf' 0 (by omega)).2 0 (by omega)
        have hspot : spot = none := by simpa [Addr.add] using World.cell?_spot (h1.trans rfl)
        subst hspot
        refine Or.inr ⟨b, off, rfl, ?_, fun i hi j hj => ?_⟩
        · exact World.block_lt_of_cell? W _ (h1.trans rfl)
        · have := (hf' i (by simpa using hi)).2 j hj
          rw [Addr.add_mid, Addr.add_mid] at this
          simpa using this
    · obtain ⟨i, hi, rfl⟩ := List.mem_map.1 hy
      exact (hf' i (List.mem_range.1 hi)).1
end Go.Proofs.Qxb6609544aDoor
