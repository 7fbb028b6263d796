import Derived.Test.Qxb6609544aDoorEq
import Derived.Lib.SlicesCompact
import Derived.Deep.MidRow
namespace Go.Proofs.Qxb6609544aDoor
open Go.RowKit
open Go.Lib (compactUpTo keeps CompInv)

/-! ### A row that one block bears alone -/
/-- All blocks but g are kept. -/
structure Oth (g : Nat) (w w' : World) : Prop where
  os : w'.os = w.os
  tape : w'.tape = w.tape
  output : w'.output = w.output
  size : w.heap.size ≤ w'.heap.size
  block : ∀ k, k ≠ g → k < w.heap.size → w'.heap[k]? = w.heap[k]?
  drawn : w.drawn ≤ w'.drawn
theorem Oth.refl (g : Nat) (w : World) : Oth g w w := ⟨rfl, rfl, rfl, Nat.le_refl _, fun _ _ _ => rfl, Nat.le_refl _⟩
theorem Oth.trans {g : Nat} {a b c : World} (h : Oth g a b) (k : Oth g b c) : Oth g a c :=
  ⟨k.os.trans h.os, k.tape.trans h.tape, k.output.trans h.output, Nat.le_trans h.size k.size, fun i hi hl => (k.block i hi (Nat.lt_of_lt_of_le hl h.size)).trans (h.block i hi hl), Nat.le_trans h.drawn k.drawn⟩
theorem Oth.drewN {g : Nat} {a b : World} (h : Oth g a b) (n : Nat) : Oth g a (b.drewN n) := ⟨h.os, h.tape, h.output, h.size, h.block, Nat.le_add_right_of_le h.drawn⟩
theorem Oth.setCells {g : Nat} {a : World} : ∀ (vs : List Value) (o : Nat) {b : World}, Oth g a b → Oth g a (b.setCells g o vs)
  | [], _, _, h => h
  | v :: r, o, b, h => Oth.setCells r (o + 1) (b := b.setCell ⟨g, o, none⟩ v) ⟨h.os, h.tape, h.output, by simpa using h.size, fun k hk hl => (Below.heap_setCell b ⟨g, o, none⟩ v k hk).trans (h.block k hk hl), h.drawn⟩
theorem Oth.bel {g : Nat} {w0 w w' : World} (k : Oth g w w') (h : Bel w0 w) (hg : w0.heap.size ≤ g) : Bel w0 w' :=
  ⟨⟨k.os.trans h.below.os, k.tape.trans h.below.tape, k.output.trans h.below.output, Nat.le_trans h.size k.size, fun i hi => (k.block i (by omega) (Nat.lt_of_lt_of_le hi h.size)).trans (h.below.block i hi)⟩, Nat.le_trans h.drawn k.drawn⟩
/-- The row of d, whole, none of it frozen. -/
def Row (zp : Addr) (w : World) (g : Nat) (d : Array (Int × Int)) : Prop :=
  g < w.heap.size ∧ ∀ i, i < d.size → w.rangeAt g (i * 6) (encE zp d[i]!) ∧ w.there g (i * 6) 6
theorem Row.drewN {zp : Addr} {w : World} {g : Nat} {d : Array (Int × Int)} (h : Row zp w g d) (n : Nat) : Row zp (w.drewN n) g d := h
theorem size_setCells (g : Nat) : ∀ (vs : List Value) (o : Nat) (w : World), (w.setCells g o vs).heap.size = w.heap.size
  | [], _, _ => rfl
  | v :: r, o, w => by rw [World.setCells, size_setCells g r]; simp
theorem Row.set {zp : Addr} {w : World} {g : Nat} {d : Array (Int × Int)} (h : Row zp w g d) {i : Nat} (hi : i < d.size) (x : Int × Int) : Row zp (w.setCells g (i * 6) (encE zp x)) g (d.setIfInBounds i x) := by
  refine ⟨by rw [size_setCells]; exact h.1, fun j hj => ?_⟩
  have hj' : j < d.size := by simpa using hj
  refine ⟨?_, World.there_setCells (h.2 j hj').2 _ _ _⟩
  by_cases e : j = i
  · subst e
    rw [Sort.getElem!_set_same d j x hi]
    exact World.rangeAt_setCells_same w g (j * 6) _ (h.2 j hj').2
  · rw [Sort.getElem!_set_other d i j x e]
    exact World.rangeAt_setCells_apart (h.2 j hj').1 _ _ _ (Or.inr (by simp; omega))
/-- The six cells of the i-th element. -/
theorem Row.six {zp : Addr} {w : World} {g : Nat} {d : Array (Int × Int)} (h : Row zp w g d) {i : Nat} (hi : i < d.size) :
    w.cell? ⟨g, i * 6, none⟩ = some (.int .u64 0) ∧ w.cell? ⟨g, i * 6 + 1, none⟩ = some (.int .u64 (low (d[i]!).1)) ∧ w.cell? ⟨g, i * 6 + 2, none⟩ = some (.pointer (some zp)) ∧
    w.cell? ⟨g, i * 6 + 3, none⟩ = some (.int .u64 0) ∧ w.cell? ⟨g, i * 6 + 4, none⟩ = some (.int .u64 (low (d[i]!).2)) ∧ w.cell? ⟨g, i * 6 + 5, none⟩ = some (.pointer (some zp)) :=
  ⟨(h.2 i hi).1 0 _ rfl, (h.2 i hi).1 1 _ rfl, (h.2 i hi).1 2 _ rfl, (h.2 i hi).1 3 _ rfl, (h.2 i hi).1 4 _ rfl, (h.2 i hi).1 5 _ rfl⟩
theorem Row.frz {zp : Addr} {w : World} {g : Nat} {d : Array (Int × Int)} (h : Row zp w g d) {i : Nat} (hi : i < d.size) :
    w.frozen? ⟨g, i * 6, none⟩ = false ∧ w.frozen? ⟨g, i * 6 + 1, none⟩ = false ∧ w.frozen? ⟨g, i * 6 + 2, none⟩ = false ∧ w.frozen? ⟨g, i * 6 + 3, none⟩ = false ∧ w.frozen? ⟨g, i * 6 + 4, none⟩ = false ∧ w.frozen? ⟨g, i * 6 + 5, none⟩ = false :=
  ⟨((h.2 i hi).2 0 (by omega)).2, ((h.2 i hi).2 1 (by omega)).2, ((h.2 i hi).2 2 (by omega)).2, ((h.2 i hi).2 3 (by omega)).2, ((h.2 i hi).2 4 (by omega)).2, ((h.2 i hi).2 5 (by omega)).2⟩

/-- The zero cells that clear lays. -/
def zz (m : Nat) : List Value := (Builtin.zeroCells #[.int .u64 0, .int .u64 0, .pointer none, .int .u64 0, .int .u64 0, .pointer none] m).toList
theorem zz_len (m : Nat) : (zz m).length = m * 6 := by simp [zz, Builtin.zeroCells]
theorem zz_one (m : Nat) : ∀ v ∈ zz m, v.oneCell' = true := by
  intro v hv
  simp only [zz, Builtin.zeroCells, Array.toList_map, List.mem_map] at hv
  obtain ⟨i, _, rfl⟩ := hv
  have h6 : i % 6 < 6 := by omega
  show (#[Value.int .u64 0, .int .u64 0, .pointer none, .int .u64 0, .int .u64 0, .pointer none][i % 6]!).oneCell' = true
  generalize i % 6 = j at h6
  rcases (by omega : j = 0 ∨ j = 1 ∨ j = 2 ∨ j = 3 ∨ j = 4 ∨ j = 5) with rfl | rfl | rfl | rfl | rfl | rfl <;> rfl
theorem clr {zp : Addr} {W : World} {g : Nat} {d : Array (Int × Int)} (h : Row zp W g d) (kk c : Nat) (hk : kk < d.size) (ty : TypeId) :
    (Builtin.clear_ #[27] ty #[.slice (some ⟨g, kk * 6, none⟩) (d.size - kk) c]).run Tryd.prog W = .ok (.tuple #[]) (W.setCells g (kk * 6) (zz (d.size - kk))) := by
  have hv : ∀ w, (zeroValue 49).run Tryd.prog w = .ok (.agg #[.int .u64 0, .int .u64 0, .pointer none, .int .u64 0, .int .u64 0, .pointer none]) w := Tryd.zeroValue49
  have hth : ∀ j, j < (zz (d.size - kk)).length → (W.cell? ⟨g, kk * 6 + 0 + j, none⟩).isSome = true ∧ W.frozen? ⟨g, kk * 6 + 0 + j, none⟩ = false := fun j hj => by
    rw [zz_len] at hj
    have := (h.2 (kk + j / 6) (by omega)).2 (j % 6) (by omega)
    rw [show (kk + j / 6) * 6 + j % 6 = kk * 6 + 0 + j from by omega] at this
    exact this
  have hst := run_storeCells_cells (P := Tryd.prog) g (kk * 6) (zz (d.size - kk)) 0 W (fun j hj => (hth j hj).1) (fun j hj => (hth j hj).2) (zz_one _)
  simp only [Nat.add_zero] at hst
  have hzc : ∀ m, (Builtin.zeroCells (Value.cells (.agg #[.int .u64 0, .int .u64 0, .pointer none, .int .u64 0, .int .u64 0, .pointer none])) m).toList = zz m := fun m => rfl
  obtain ⟨m, hm⟩ : ∃ m, d.size - kk = m + 1 := ⟨d.size - kk - 1, by omega⟩
  rw [hm] at hst ⊢
  simp [Builtin.clear_, run_underlying und27, hv, hzc, hst]

/-- What Compact leaves. -/
def Compd (zp : Addr) (g : Nat) (L : List (Int × Int)) (w w' : World) : Prop := Oth g w w' ∧ ∀ i x, L[i]? = some x → w'.rangeAt g (i * 6) (encE zp x)

set_option maxRecDepth 100000 in
set_option maxHeartbeats 4000000 in
theorem compact (zp : Addr) (g n cap : Nat) (d : Array (Int × Int)) (w : World) (hn : d.size = n) (hcap : n ≤ cap) (hb : (cap : Int) ≤ 9223372036854775807) (hR : Row zp w g d) :
    Calls Tryd.prog 38 #[.slice (some ⟨g, 0, none⟩) n cap] w fun e w' => e = .returned (.slice (some ⟨g, 0, none⟩) (compactUpTo d n).length cap) ∧ Compd zp g (compactUpTo d n) w w' := by
  have same : ∀ q, (∀ j, j < n → keeps d j = true) → (compactUpTo d n).length = n ∧ Compd zp g (compactUpTo d n) w (w.drewN q) := fun q hall => by
    have e : compactUpTo d n = d.toList := by rw [Lib.compactUpTo_all d _ hall, ← hn, Lib.range_map_get]
    rw [e]
    refine ⟨by simpa using hn, (Oth.refl g w).drewN q, fun i x hx => ?_⟩
    obtain ⟨hi, rfl⟩ := List.getElem?_eq_some_iff.1 hx
    have hi' : i < d.size := by simpa using hi
    have := (hR.2 i hi').1
    rw [getElem!_pos d i hi'] at this
    exact this
  have HS : Hid (∀ q, (∀ j, j < n → keeps d j = true) → (compactUpTo d n).length = n ∧ Compd zp g (compactUpTo d n) w (w.drewN q)) := same
  have HR : Hid (Row zp w g d) := hR
  have q1 := eqlE zp
  have q2 := neqE zp
  have q3 := grdE
  have hcI : (n : Int) ≤ (cap : Int) := by omega
  clear same hR
  by_cases h2 : n < 2
  · have h2I : (n : Int) < 2 := by omega
    go_enter Tryd.func38, Tryd.ntmps38
    go_wp2_with fail
    go_ret
    obtain ⟨e1, e2⟩ := HS.out 0 (fun j hj => by
      by_cases h0 : j = 0
      · exact Lib.keeps_lt_one d j (by omega)
      · exfalso; omega)
    exact ⟨by rw [e1]; rfl, e2⟩
  · have h2I : ¬ (n : Int) < 2 := by omega
    go_enter Tryd.func38, Tryd.ntmps38
    go_wp2_with fail
    go_loopw [3] (fun s3 wr => ∃ k q : Nat, 1 ≤ k ∧ k ≤ n ∧ s3 = .int .i64 k ∧ wr = w.drewN q ∧ ∀ j, j < k → keeps d j = true) (fun i _ => n - (intOf i).toNat)
    case atStart => exact ⟨1, 0, Nat.le_refl _, by omega, rfl, rfl, Lib.keeps_lt_one d⟩
    case round =>
      obtain ⟨k, q, hk1, hk, rfl, rfl, hall⟩ := hrel
      by_cases hlt : k < n
      · have hltI : (k : Int) < (n : Int) := by omega
        have A : Hid (∀ j, j < k → keeps d j = true) := hall
        clear hall
        obtain ⟨a0, a1, a2, a3, a4, a5⟩ := HR.out.six (i := k) (by omega)
        obtain ⟨b0, b1, b2, b3, b4, b5⟩ := HR.out.six (i := k - 1) (by omega)
        generalize hx : d[k]! = x at *
        generalize hy : d[k - 1]! = y at *
        have hT : ((k : Int) - 1).toNat = k - 1 := by omega
        have hT0 : (0 : Int) ≤ (k : Int) - 1 := by omega
        have hT1 : (k : Int) - 1 < (n : Int) := by omega
        go_wp2_with fail
        go_quiet (fail)
        clear a0 a1 a2 a3 a4 a5 b0 b1 b2 b3 b4 b5 hT hT0 hT1
        have HXY : Hid (d[k]! = x ∧ d[k - 1]! = y) := ⟨hx, hy⟩
        clear hx hy
        by_cases hdup : x = y
        · have hd1 : decide (x = y) = true := by simp [hdup]
          have hck : ¬ cap = k := by omega
          have hckI : (k : Int) ≤ (n : Int) := by omega
          go_wp2_with fail
          go_loopw [3, 5] (fun s3 s5 wr => ∃ (kk k2 : Nat) (dk : Array (Int × Int)), s3 = .int .i64 kk ∧ s5 = .int .i64 k2 ∧ 1 ≤ k2 ∧ k + k2 ≤ n ∧ Row zp wr g dk ∧ Oth g w wr ∧ CompInv d (k + k2) kk dk) (fun _ j _ => n - (intOf j).toNat)
          case atStart => exact ⟨k, 1, d, rfl, rfl, Nat.le_refl _, by omega, HR.out.drewN (q + nq), (Oth.refl g w).drewN (q + nq), CompInv.start A.out (Lib.keeps_neg (by omega) (by rw [HXY.out.1, HXY.out.2, hdup]))⟩
          case round =>
            obtain ⟨kk, k2, dk, rfl, rfl, h1, hle, hRk, hO, hI⟩ := hrel
            have hkk := hI.lt
            have hds := hI.size
            by_cases hlt2 : k + k2 < n
            · obtain ⟨a0, a1, a2, a3, a4, a5⟩ := hRk.six (i := k + k2) (by omega)
              obtain ⟨b0, b1, b2, b3, b4, b5⟩ := hRk.six (i := k + k2 - 1) (by omega)
              rw [hI.high (k + k2) (by omega)] at a1 a4
              rw [hI.high (k + k2 - 1) (by omega)] at b1 b4
              generalize hu : d[k + k2]! = u at a1 a4
              generalize hv : d[k + k2 - 1]! = v at b1 b4
              have HUV : Hid (d[k + k2]! = u ∧ d[k + k2 - 1]! = v) := ⟨hu, hv⟩
              clear hu hv
              rw [show (k + k2) * 6 = k * 6 + k2 * 6 from by omega] at a0 a1 a2 a3 a4 a5
              rw [show (k + k2 - 1) * 6 = k * 6 + (k2 - 1) * 6 from by omega] at b0 b1 b2 b3 b4 b5
              have f := hRk.frz (i := kk) (by omega)
              have e := hRk.six (i := kk) (by omega)
              have HRk : Hid (Row zp wr g dk) := hRk
              have HI : Hid (CompInv d (k + k2) kk dk) := hI
              have HO : Hid (Oth g w wr) := hO
              have hT : ((k2 : Int) - 1).toNat = k2 - 1 := by omega
              have hT0 : (0 : Int) ≤ (k2 : Int) - 1 := by omega
              have hT1 : (k2 : Int) - 1 < (n : Int) - (k : Int) := by omega
              have hT2 : (k2 : Int) < (n : Int) - (k : Int) := by omega
              have hT3 : ((n - k : Nat) : Int) = (n : Int) - (k : Int) := by omega
              have hT4 : (kk : Int) < (n : Int) := by omega
              have hT5 : (0 : Int) ≤ (kk : Int) := by omega
              clear hRk hI hO
              go_wp2_with fail
              go_quiet (fail)
              by_cases huv : u = v
              · subst huv
                go_wp2_with fail
                go_roundw
                case rel => exact ⟨kk, k2 + 1, dk, rfl, by go_num, by omega, by omega, HRk.out.drewN nq, HO.out.drewN nq, HI.out.skip (Lib.keeps_neg (by omega) (by rw [HUV.out.1, HUV.out.2]))⟩
                case measure => simp [intOf]; omega
              · obtain ⟨e0, e1, e2, e3, e4, e5⟩ := e
                obtain ⟨f0, f1, f2, f3, f4, f5⟩ := f
                go_wp2_with fail
                go_roundw
                case rel =>
                  have hRs : Row zp ((wr.drewN nq).setCells g (kk * 6) (encE zp u)) g (dk.setIfInBounds kk u) := (HRk.out.drewN nq).set (by omega) u
                  have hOs : Oth g w ((wr.drewN nq).setCells g (kk * 6) (encE zp u)) := (HO.out.drewN nq).setCells _ _
                  have hIs := HI.out.keep (by omega) (Lib.keeps_pos (by rw [HUV.out.1, HUV.out.2]; exact huv))
                  rw [HUV.out.1] at hIs
                  exact ⟨kk + 1, k2 + 1, dk.setIfInBounds kk u, by go_num, by go_num, by omega, by omega, hRs, hOs, hIs⟩
                case measure => simp [intOf]; omega
                rename_i hz
                simp [huv] at hz
            · have hend : k + k2 = n := by omega
              have hkd : kk < d.size := by omega
              have hckk : ¬ cap = kk := by omega
              have hcl : ∀ ty c, (Builtin.clear_ #[27] ty #[.slice (some ⟨g, kk * 6, none⟩) (n - kk) c]).run Tryd.prog wr = .ok (.tuple #[]) (wr.setCells g (kk * 6) (zz (n - kk))) := fun ty c => by
                have := clr hRk kk c (by omega) ty
                rw [hds, hn] at this
                exact this
              have hT4 : (kk : Int) ≤ (n : Int) := by omega
              have hT5 : (0 : Int) ≤ (kk : Int) := by omega
              have hT6 : (kk : Int) ≤ (cap : Int) := by omega
              have hT7 : ¬ (k2 : Int) < (n : Int) - (k : Int) := by omega
              have hT3 : ((n - k : Nat) : Int) = (n : Int) - (k : Int) := by omega
              have HRk : Hid (Row zp wr g dk) := hRk
              have HI : Hid (CompInv d (k + k2) kk dk) := hI
              have HO : Hid (Oth g w wr) := hO
              clear hRk hI hO
              go_wp2_with fail
              go_ret
              have hI := HI.out
              rw [hend] at hI
              refine ⟨by rw [hI.len]; rfl, HO.out.setCells _ _, fun i x hx => ?_⟩
              have hi : i < kk := by rw [← hI.len]; exact (List.getElem?_eq_some_iff.1 hx).1
              rw [hI.low i hi] at hx
              obtain rfl := Option.some.inj hx
              exact World.rangeAt_setCells_apart (HRk.out.2 i (by omega)).1 _ _ _ (Or.inr (Or.inl (by simp; omega)))
        · have hd1 : decide (x = y) = false := by simp [hdup]
          go_wp2_with fail
          go_roundw
          case rel =>
            refine ⟨k + 1, q + nq, by omega, by omega, by go_num, rfl, fun j hj => ?_⟩
            by_cases e : j = k
            · subst e
              exact Lib.keeps_pos (by rw [HXY.out.1, HXY.out.2]; exact hdup)
            · exact A.out j (by omega)
          case measure => simp [intOf]; omega
      · have hnk : k = n := by omega
        subst hnk
        go_wp2_with fail
        go_ret
        obtain ⟨e1, e2⟩ := HS.out q hall
        exact ⟨by rw [e1]; rfl, e2⟩
end Go.Proofs.Qxb6609544aDoor
