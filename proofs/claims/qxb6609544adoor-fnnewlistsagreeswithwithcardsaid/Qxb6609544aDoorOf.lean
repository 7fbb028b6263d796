import Derived.Test.Qxb6609544aDoorPre
import Derived.Test.Qxb6609544aDoorSet
namespace Go.Proofs.Qxb6609544aDoor
open Go.RowKit

theorem Bel.setCells {a : World} {g : Nat} (hg : a.heap.size ≤ g) : ∀ (vs : List Value) (o : Nat) {w : World}, Bel a w → Bel a (w.setCells g o vs)
  | [], _, _, h => h
  | v :: r, o, _, h => Bel.setCells hg r (o + 1) (h.setCell (p := ⟨g, o, none⟩) hg v)
/-- n places for entries in block g, the first k of them filled as L has it. -/
structure Rw (zp : Addr) (w : World) (g n k : Nat) (L : List (Int × Int)) : Prop where
  lt : g < w.heap.size
  there : ∀ i, i < n → w.there g (i * 6) 6
  full : ∀ i (h : i < L.length), i < k → w.rangeAt g (i * 6) (encE zp L[i])
theorem Rw.bel {zp : Addr} {w w' : World} {g n k : Nat} {L : List (Int × Int)} (h : Rw zp w g n k L) (b : Bel w w') : Rw zp w' g n k L :=
  ⟨Nat.lt_of_lt_of_le h.lt b.size, fun i hi j hj => by
      rw [b.below.cell (p := ⟨g, i * 6 + j, none⟩) h.lt, b.below.frozen (p := ⟨g, i * 6 + j, none⟩) h.lt]
      exact h.there i hi j hj,
    fun i hi hk j v hv => (b.below.cell (p := ⟨g, i * 6 + j, none⟩) h.lt).trans (h.full i hi hk j v hv)⟩
theorem Rw.six {zp : Addr} {w : World} {g n k : Nat} {L : List (Int × Int)} (h : Rw zp w g n k L) {i : Nat} (hi : i < n) :
    ∃ u0 u1 u2 u3 u4 u5, w.cell? ⟨g, i * 6, none⟩ = some u0 ∧ w.cell? ⟨g, i * 6 + 1, none⟩ = some u1 ∧ w.cell? ⟨g, i * 6 + 2, none⟩ = some u2 ∧ w.cell? ⟨g, i * 6 + 3, none⟩ = some u3 ∧ w.cell? ⟨g, i * 6 + 4, none⟩ = some u4 ∧ w.cell? ⟨g, i * 6 + 5, none⟩ = some u5 ∧
    w.frozen? ⟨g, i * 6, none⟩ = false ∧ w.frozen? ⟨g, i * 6 + 1, none⟩ = false ∧ w.frozen? ⟨g, i * 6 + 2, none⟩ = false ∧ w.frozen? ⟨g, i * 6 + 3, none⟩ = false ∧ w.frozen? ⟨g, i * 6 + 4, none⟩ = false ∧ w.frozen? ⟨g, i * 6 + 5, none⟩ = false := by
  have t := h.there i hi
  obtain ⟨u0, h0⟩ := Option.isSome_iff_exists.1 (t 0 (by omega)).1
  obtain ⟨u1, h1⟩ := Option.isSome_iff_exists.1 (t 1 (by omega)).1
  obtain ⟨u2, h2⟩ := Option.isSome_iff_exists.1 (t 2 (by omega)).1
  obtain ⟨u3, h3⟩ := Option.isSome_iff_exists.1 (t 3 (by omega)).1
  obtain ⟨u4, h4⟩ := Option.isSome_iff_exists.1 (t 4 (by omega)).1
  obtain ⟨u5, h5⟩ := Option.isSome_iff_exists.1 (t 5 (by omega)).1
  exact ⟨u0, u1, u2, u3, u4, u5, h0, h1, h2, h3, h4, h5, (t 0 (by omega)).2, (t 1 (by omega)).2, (t 2 (by omega)).2, (t 3 (by omega)).2, (t 4 (by omega)).2, (t 5 (by omega)).2⟩
theorem Rw.put {zp : Addr} {w : World} {g n k : Nat} {L : List (Int × Int)} (h : Rw zp w g n k L) (hk : k < n) (hl : k < L.length) : Rw zp (w.setCells g (k * 6) (encE zp L[k])) g n (k + 1) L := by
  refine ⟨by rw [size_setCells]; exact h.lt, fun i hi => World.there_setCells (h.there i hi) _ _ _, fun i hi hk' => ?_⟩
  by_cases e : i = k
  · subst e
    exact World.rangeAt_setCells_same w g (i * 6) _ (h.there i hk)
  · exact World.rangeAt_setCells_apart (h.full i hi (by omega)) _ _ _ (Or.inr (by simp; omega))
theorem make49 (n : Nat) (hn : n ≤ 1000000) : ∃ M : Array Value, M.size = n * 6 ∧ ∀ W : World, (Instr.makeSlice 27 (.int .i64 (n : Int)) (.int .i64 (n : Int))).run Tryd.prog W = .ok (.slice (some ⟨W.heap.size, 0, none⟩) n n) (W.alloc (.cells M 49)) := by
  obtain ⟨i, hi, hz, hs, hb⟩ := info_parts info49
  refine ⟨madeCells (Value.cells (.agg #[.int .u64 0, .int .u64 0, .pointer none, .int .u64 0, .int .u64 0, .pointer none])) (n * 6), size_madeCells _ _, fun W => ?_⟩
  have := run_make (P := Tryd.prog) W 27 49 i _ und27 hi hz .i64 .i64 n n (by omega) (Int.le_refl _) (by
    rw [hb]; omega) (by omega)
  rw [this, hs]
  simp
theorem Rw.new (zp : Addr) (W : World) (M : Array Value) (n : Nat) (L : List (Int × Int)) (hM : M.size = n * 6) : Rw zp (W.alloc (.cells M 49)) W.heap.size n 0 L := by
  refine ⟨by simp, fun i hi j hj => ⟨?_, by simp⟩, fun i hi hk => by omega⟩
  simp; omega

set_option maxRecDepth 100000 in
set_option maxHeartbeats 4000000 in
theorem entriesOf (zp : Addr) (a : Option Addr) (n cap : Nat) (L : List (Int × Int)) (w : World) (hz : Zed w zp) (hn : (n : Int) ≤ 1000000) (hr : Rs w a n L) (hx : ∀ x ∈ L, Okx x) :
    Calls Tryd.prog 10 #[.slice a n cap] w fun e w' => ∃ g, e = .returned (.slice (some ⟨g, 0, none⟩) n n) ∧ Ents zp w' g 0 L ∧ Bel w w' := by
  obtain ⟨M, hM, hmk⟩ := make49 n (by omega)
  have HW : Hid (Bel w (w.alloc (.cells M 49))) := (Bel.refl w).alloc _
  have HRW : Hid (Rw zp (w.alloc (.cells M 49)) w.heap.size n 0 L) := Rw.new zp w M n L hM
  have HZ : Hid (∀ V, Bel w V → Zed V zp) := fun V hV => hz.bel hV
  have HR : Hid (Rs w a n L) := hr
  have HX : Hid (∀ x ∈ L, Okx x) := hx
  clear hr hx hz hM
  go_enter Tryd.func10, Tryd.ntmps10
  go_wp2_with fail
  generalize w.alloc (.cells M 49) = W0 at *
  clear hmk
  go_loopw [4] (fun i wr => ∃ k : Nat, k ≤ n ∧ i = .int .i64 k ∧ Rw zp wr w.heap.size n k L ∧ Bel w wr) (fun i _ => n - (intOf i).toNat)
  case atStart => exact ⟨0, Nat.zero_le _, rfl, HRW.out, HW.out⟩
  case round =>
    obtain ⟨k, hk, rfl, hRw, hb⟩ := hrel
    by_cases hlt : k < n
    · have hltI : (k : Int) < (n : Int) := by omega
      obtain ⟨hL, h0 | ⟨g, off, rfl, hrg⟩⟩ := HR.out
      · exfalso; omega
      have hkl : k < L.length := by omega
      obtain ⟨x, hx⟩ : ∃ x, L[k]'hkl = x := ⟨_, rfl⟩
      have hok : Okx x := hx ▸ HX.out _ (List.getElem_mem _)
      have CC : Hid (∀ V, Bel w V → Calls Tryd.prog 21 #[.agg (by4 x.1), .agg (by4 x.2)] V fun e w' => e = .returned (entV zp x.1 x.2) ∧ Bel V w') := fun V hV => by
        obtain ⟨h1, h2, h3, h4⟩ := by4_byt x.1 ⟨hok.1, hok.2.1⟩
        obtain ⟨g1, g2, g3, g4⟩ := by4_byt x.2 ⟨hok.2.2.1, hok.2.2.2⟩
        have h := zzentry4 zp _ _ _ _ _ _ _ _ V (HZ.out V hV) h1.1 h1.2 h2.1 h2.2 h3.1 h3.2 h4.1 h4.2 g1.1 g1.2 g2.1 g2.2 g3.1 g3.2 g4.1 g4.2
        rw [num4_by, num4_by] at h
        exact h
      obtain ⟨a0, a1, a2, a3, a4, a5, a6, a7⟩ := (hrg.below hb.below).eight (i := k) hkl hx
      have HP : Hid (∀ V, Rw zp V w.heap.size n k L → Rw zp (V.setCells w.heap.size (k * 6) (encE zp x)) w.heap.size n (k + 1) L) := fun V hV => hx ▸ hV.put hlt hkl
      have HRk : Hid (Rw zp wr w.heap.size n k L) := hRw
      have HK : Hid (k < n) := hlt
      have hT0 : (0 : Int) ≤ (k : Int) := by omega
      clear hx hok hrg hL hRw
      go_wp2_with fail
      go_region_with (go_at_call 21; refine (CC.out _ hb.drew).mono ?_; rintro e w1 ⟨rfl, hb1⟩; have hR1 : Rw zp w1 w.heap.size n k L := (HRk.out.bel ((Bel.refl _).drew.trans hb1)); obtain ⟨u0, u1, u2, u3, u4, u5, e0, e1, e2, e3, e4, e5, f0, f1, f2, f3, f4, f5⟩ := hR1.six HK.out)
      all_goals
        have hR2 := HP.out _ hR1
        have hB2 : Bel w (w1.setCells w.heap.size (k * 6) (encE zp x)) := Bel.setCells (Nat.le_refl _) _ _ ((hb.drew).trans hb1)
        clear e0 e1 e2 e3 e4 e5 f0 f1 f2 f3 f4 f5 a0 a1 a2 a3 a4 a5 a6 a7 hR1
        go_wp2_with fail
        go_roundw
        case rel => exact ⟨k + 1, by omega, by go_num, hR2, hB2⟩
        case measure => simp [intOf]; omega
    · have hltI : ¬ (k : Int) < (n : Int) := by omega
      have hkn : k = n := by omega
      go_wp2_with fail
      go_ret
      refine ⟨w.heap.size, rfl, ⟨hRw.lt, fun i hi c hc => ?_⟩, hb⟩
      have h1 := hRw.full i hi (by have := HR.out.1; omega)
      have h2 : (encE zp L[i])[c]? = some ((encE zp L[i])[c]'(by simpa using hc)) := List.getElem?_eq_getElem _
      rw [Nat.zero_add, h1 c _ h2, h2]
end Go.Proofs.Qxb6609544aDoor
