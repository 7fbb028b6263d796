import Derived.Test.Qxb6609544aDoorAs
import Derived.Test.Qxb6609544aDoorIns
import Derived.Test.Qxb6609544aDoorBal
namespace Go.Proofs.Qxb6609544aDoor
open Go.RowKit

/-- The eight bytes of a range. -/
abbrev encR (x : Int × Int) : List Value := [.int .u8 (x.1 / 16777216), .int .u8 (x.1 / 65536 % 256), .int .u8 (x.1 / 256 % 256), .int .u8 (x.1 % 256), .int .u8 (x.2 / 16777216), .int .u8 (x.2 / 65536 % 256), .int .u8 (x.2 / 256 % 256), .int .u8 (x.2 % 256)]
/-- The ranges of L lie in block g from off on. -/
def Rngs (w : World) (g off : Nat) (L : List (Int × Int)) : Prop :=
  g < w.heap.size ∧ ∀ i (h : i < L.length) c, c < 8 → w.cell? ⟨g, off + i * 8 + c, none⟩ = (encR L[i])[c]?
theorem Rngs.below {w w' : World} {g off : Nat} {L : List (Int × Int)} (h : Rngs w g off L) (k : Below w.heap.size w w') : Rngs w' g off L :=
  ⟨Nat.lt_of_lt_of_le h.1 k.size, fun i hi c hc => (k.cell (p := ⟨g, off + i * 8 + c, none⟩) h.1).trans (h.2 i hi c hc)⟩
/-- The eight cells of the i-th. -/
theorem Rngs.eight {w : World} {g off : Nat} {L : List (Int × Int)} (h : Rngs w g off L) {i : Nat} (hi : i < L.length) {x : Int × Int} (hx : L[i] = x) :
    w.cell? ⟨g, off + i * 8, none⟩ = some (.int .u8 (x.1 / 16777216)) ∧ w.cell? ⟨g, off + i * 8 + 1, none⟩ = some (.int .u8 (x.1 / 65536 % 256)) ∧ w.cell? ⟨g, off + i * 8 + 2, none⟩ = some (.int .u8 (x.1 / 256 % 256)) ∧ w.cell? ⟨g, off + i * 8 + 3, none⟩ = some (.int .u8 (x.1 % 256)) ∧ w.cell? ⟨g, off + i * 8 + 4, none⟩ = some (.int .u8 (x.2 / 16777216)) ∧ w.cell? ⟨g, off + i * 8 + 5, none⟩ = some (.int .u8 (x.2 / 65536 % 256)) ∧ w.cell? ⟨g, off + i * 8 + 6, none⟩ = some (.int .u8 (x.2 / 256 % 256)) ∧ w.cell? ⟨g, off + i * 8 + 7, none⟩ = some (.int .u8 (x.2 % 256)) := by
  subst hx
  exact ⟨(h.2 i hi 0 (by omega)).trans rfl, (h.2 i hi 1 (by omega)).trans rfl, (h.2 i hi 2 (by omega)).trans rfl, (h.2 i hi 3 (by omega)).trans rfl, (h.2 i hi 4 (by omega)).trans rfl, (h.2 i hi 5 (by omega)).trans rfl, (h.2 i hi 6 (by omega)).trans rfl, (h.2 i hi 7 (by omega)).trans rfl⟩

set_option maxRecDepth 100000 in
set_option maxHeartbeats 1000000 in
theorem cmpRange (x y : Int × Int) (w : World) (hx : Okx x) (hy : Okx y) :
    Calls Tryd.prog 46 #[.agg #[.int .u8 (x.1 / 16777216), .int .u8 (x.1 / 65536 % 256), .int .u8 (x.1 / 256 % 256), .int .u8 (x.1 % 256), .int .u8 (x.2 / 16777216), .int .u8 (x.2 / 65536 % 256), .int .u8 (x.2 / 256 % 256), .int .u8 (x.2 % 256)], .agg #[.int .u8 (y.1 / 16777216), .int .u8 (y.1 / 65536 % 256), .int .u8 (y.1 / 256 % 256), .int .u8 (y.1 % 256), .int .u8 (y.2 / 16777216), .int .u8 (y.2 / 65536 % 256), .int .u8 (y.2 / 256 % 256), .int .u8 (y.2 % 256)]] w fun e w' => e = .returned (.int .i64 (cmpE x y)) ∧ Bel w w' := by
  have hW : Bel w ((w.alloc (.cells #[.int .u8 (x.1 / 16777216), .int .u8 (x.1 / 65536 % 256), .int .u8 (x.1 / 256 % 256), .int .u8 (x.1 % 256), .int .u8 (x.2 / 16777216), .int .u8 (x.2 / 65536 % 256), .int .u8 (x.2 / 256 % 256), .int .u8 (x.2 % 256)] 37)).alloc (.cells #[.int .u8 (y.1 / 16777216), .int .u8 (y.1 / 65536 % 256), .int .u8 (y.1 / 256 % 256), .int .u8 (y.1 % 256), .int .u8 (y.2 / 16777216), .int .u8 (y.2 / 65536 % 256), .int .u8 (y.2 / 256 % 256), .int .u8 (y.2 % 256)] 37)) := ((Bel.refl w).alloc _).alloc _
  have s1 := (Slot.new w #[.int .u8 (x.1 / 16777216), .int .u8 (x.1 / 65536 % 256), .int .u8 (x.1 / 256 % 256), .int .u8 (x.1 % 256), .int .u8 (x.2 / 16777216), .int .u8 (x.2 / 65536 % 256), .int .u8 (x.2 / 256 % 256), .int .u8 (x.2 % 256)] 37).alloc (.cells #[.int .u8 (y.1 / 16777216), .int .u8 (y.1 / 65536 % 256), .int .u8 (y.1 / 256 % 256), .int .u8 (y.1 % 256), .int .u8 (y.2 / 16777216), .int .u8 (y.2 / 65536 % 256), .int .u8 (y.2 / 256 % 256), .int .u8 (y.2 % 256)] 37)
  have s2 : Slot ((w.alloc (.cells #[.int .u8 (x.1 / 16777216), .int .u8 (x.1 / 65536 % 256), .int .u8 (x.1 / 256 % 256), .int .u8 (x.1 % 256), .int .u8 (x.2 / 16777216), .int .u8 (x.2 / 65536 % 256), .int .u8 (x.2 / 256 % 256), .int .u8 (x.2 % 256)] 37)).alloc (.cells #[.int .u8 (y.1 / 16777216), .int .u8 (y.1 / 65536 % 256), .int .u8 (y.1 / 256 % 256), .int .u8 (y.1 % 256), .int .u8 (y.2 / 16777216), .int .u8 (y.2 / 65536 % 256), .int .u8 (y.2 / 256 % 256), .int .u8 (y.2 % 256)] 37)) (w.heap.size + 1) #[.int .u8 (y.1 / 16777216), .int .u8 (y.1 / 65536 % 256), .int .u8 (y.1 / 256 % 256), .int .u8 (y.1 % 256), .int .u8 (y.2 / 16777216), .int .u8 (y.2 / 65536 % 256), .int .u8 (y.2 / 256 % 256), .int .u8 (y.2 % 256)] := by
    have := Slot.new (w.alloc (.cells #[.int .u8 (x.1 / 16777216), .int .u8 (x.1 / 65536 % 256), .int .u8 (x.1 / 256 % 256), .int .u8 (x.1 % 256), .int .u8 (x.2 / 16777216), .int .u8 (x.2 / 65536 % 256), .int .u8 (x.2 / 256 % 256), .int .u8 (x.2 % 256)] 37)) #[.int .u8 (y.1 / 16777216), .int .u8 (y.1 / 65536 % 256), .int .u8 (y.1 / 256 % 256), .int .u8 (y.1 % 256), .int .u8 (y.2 / 16777216), .int .u8 (y.2 / 65536 % 256), .int .u8 (y.2 / 256 % 256), .int .u8 (y.2 % 256)] 37
    simp only [World.size_alloc] at this
    exact this
  have J1 : Hid (∀ V, Calls Tryd.prog 25 #[.agg (by4 x.1), .agg (by4 y.1)] V fun e w' => e = .returned (.int .i64 (cmpZ x.1 y.1)) ∧ Bel V w') := fun V => by
    have h := cmp4 _ _ _ _ _ _ _ _ V (by4_byt x.1 ⟨hx.1, hx.2.1⟩) (by4_byt y.1 ⟨hy.1, hy.2.1⟩)
    rw [num4_by, num4_by] at h
    exact h
  have J2 : Hid (∀ V, Calls Tryd.prog 25 #[.agg (by4 x.2), .agg (by4 y.2)] V fun e w' => e = .returned (.int .i64 (cmpZ x.2 y.2)) ∧ Bel V w') := fun V => by
    have h := cmp4 _ _ _ _ _ _ _ _ V (by4_byt x.2 ⟨hx.2.2.1, hx.2.2.2⟩) (by4_byt y.2 ⟨hy.2.2.1, hy.2.2.2⟩)
    rw [num4_by, num4_by] at h
    exact h
  clear hx hy
  go_enter Tryd.func46, Tryd.ntmps46
  go_wp2_with fail
  generalize ((w.alloc (.cells #[.int .u8 (x.1 / 16777216), .int .u8 (x.1 / 65536 % 256), .int .u8 (x.1 / 256 % 256), .int .u8 (x.1 % 256), .int .u8 (x.2 / 16777216), .int .u8 (x.2 / 65536 % 256), .int .u8 (x.2 / 256 % 256), .int .u8 (x.2 % 256)] 37)).alloc (.cells #[.int .u8 (y.1 / 16777216), .int .u8 (y.1 / 65536 % 256), .int .u8 (y.1 / 256 % 256), .int .u8 (y.1 % 256), .int .u8 (y.2 / 16777216), .int .u8 (y.2 / 65536 % 256), .int .u8 (y.2 / 256 % 256), .int .u8 (y.2 % 256)] 37)) = W0 at *
  refine (J1.out _).mono ?_
  rintro e w1 ⟨rfl, hb1⟩
  have c1 := (s1.bel hb1).cell
  have c2 := (s2.bel hb1).cell
  clear s1 s2
  by_cases h0 : cmpZ x.1 y.1 = 0
  · have HV : Hid (cmpE x y = cmpZ x.2 y.2) := if_pos h0
    go_wp2_with fail
    refine (J2.out _).mono ?_
    rintro e w2 ⟨rfl, hb2⟩
    go_wp2_with fail
    go_ret
    exact ⟨ret_int HV.out.symm, hW.trans (hb1.trans hb2)⟩
  · have HV : Hid (cmpE x y = cmpZ x.1 y.1) := if_neg h0
    go_wp2_with fail
    go_ret
    exact ⟨ret_int HV.out.symm, hW.trans hb1⟩

set_option maxRecDepth 100000 in
set_option maxHeartbeats 2000000 in
/-- ascending: a sorted row is told so. -/
theorem ascending (g off n cap : Nat) (L : List (Int × Int)) (w : World) (hL : L.length = n) (hn : (n : Int) ≤ 1000000) (hr : Rngs w g off L) (hx : ∀ x ∈ L, Okx x) (hs : Srt L) :
    Calls Tryd.prog 28 #[.slice (some ⟨g, off, none⟩) n cap] w fun e w' => e = .returned (.bool true) ∧ Bel w w' := by
  have HR : Hid (Rngs w g off L) := hr
  have HX : Hid (∀ x ∈ L, Okx x) := hx
  have HS : Hid (Srt L) := hs
  clear hr hx hs
  go_enter Tryd.func28, Tryd.ntmps28
  go_wp2_with fail
  go_loopw [3] (fun i wr => ∃ k : Nat, 1 ≤ k ∧ (k ≤ n ∨ k = 1) ∧ i = .int .i64 k ∧ Bel w wr) (fun i _ => n - (intOf i).toNat)
  case atStart => exact ⟨1, Nat.le_refl _, Or.inr rfl, rfl, Bel.refl _⟩
  case round =>
    obtain ⟨k, hk1, hk, rfl, hb⟩ := hrel
    by_cases hlt : k < n
    · have hltI : (k : Int) < (n : Int) := by omega
      obtain ⟨x, hx⟩ : ∃ x, L[k - 1]'(by omega) = x := ⟨_, rfl⟩
      obtain ⟨y, hy⟩ : ∃ y, L[k]'(by omega) = y := ⟨_, rfl⟩
      have hlt' : cmpE x y < 0 := by
        have := List.pairwise_iff_getElem.1 HS.out (k - 1) k (by omega) (by omega) (by omega)
        rw [hx, hy] at this
        exact this
      have CC : Hid (∀ V, Calls Tryd.prog 46 #[.agg #[.int .u8 (x.1 / 16777216), .int .u8 (x.1 / 65536 % 256), .int .u8 (x.1 / 256 % 256), .int .u8 (x.1 % 256), .int .u8 (x.2 / 16777216), .int .u8 (x.2 / 65536 % 256), .int .u8 (x.2 / 256 % 256), .int .u8 (x.2 % 256)], .agg #[.int .u8 (y.1 / 16777216), .int .u8 (y.1 / 65536 % 256), .int .u8 (y.1 / 256 % 256), .int .u8 (y.1 % 256), .int .u8 (y.2 / 16777216), .int .u8 (y.2 / 65536 % 256), .int .u8 (y.2 / 256 % 256), .int .u8 (y.2 % 256)]] V fun e w' => e = .returned (.int .i64 (cmpE x y)) ∧ Bel V w') := fun V => cmpRange x y V (hx ▸ HX.out _ (List.getElem_mem _)) (hy ▸ HX.out _ (List.getElem_mem _))
      have a := fun p : Kin wr => (HR.out.below (hb.trans p.bel).below).eight (i := k - 1) (by omega) hx
      have b := fun p : Kin wr => (HR.out.below (hb.trans p.bel).below).eight (i := k) (by omega) hy
      have a0 := fun p => (a p).1
      have a1 := fun p => (a p).2.1
      have a2 := fun p => (a p).2.2.1
      have a3 := fun p => (a p).2.2.2.1
      have a4 := fun p => (a p).2.2.2.2.1
      have a5 := fun p => (a p).2.2.2.2.2.1
      have a6 := fun p => (a p).2.2.2.2.2.2.1
      have a7 := fun p => (a p).2.2.2.2.2.2.2
      have b0 := fun p => (b p).1
      have b1 := fun p => (b p).2.1
      have b2 := fun p => (b p).2.2.1
      have b3 := fun p => (b p).2.2.2.1
      have b4 := fun p => (b p).2.2.2.2.1
      have b5 := fun p => (b p).2.2.2.2.2.1
      have b6 := fun p => (b p).2.2.2.2.2.2.1
      have b7 := fun p => (b p).2.2.2.2.2.2.2
      have hT : ((k : Int) - 1).toNat = k - 1 := by omega
      have hT0 : (0 : Int) ≤ (k : Int) - 1 := by omega
      have hT1 : (k : Int) - 1 < (n : Int) := by omega
      have hT2 : IntKind.i64.wrap ((k : Int) - 1) = (k : Int) - 1 := wrapI (by omega) (by omega)
      have hng : ¬ (0 : Int) ≤ cmpE x y := by omega
      have hT3 : (1 : Int) ≤ (k : Int) := by omega
      have hT4 : (k : Int) < (n : Int) + 1 := by omega
      have kne := kinNe wr
      clear a b hx hy
      go_wp2_with fail
      refine wp_region_kin (by kernel_rfl) (by kernel_rfl) ?_
      repeat (first | go_big_quiet_step ((go_at_call 46; exact kin_of (CC.out _))) | quiet_step (first | rfl | (go_at_call 46; exact kin_of (CC.out _))))
      refine wpQuiet_nil ?_
      intro W1 hw
      obtain ⟨kk, hw⟩ := hw
      have hbe := kk.bel
      rw [← hw] at hbe
      clear hw kk kne a0 a1 a2 a3 a4 a5 a6 a7 b0 b1 b2 b3 b4 b5 b6 b7
      go_wp2_with fail
      go_roundw
      case rel => exact ⟨k + 1, by omega, Or.inl (by omega), by go_num, hb.trans hbe⟩
      case measure => simp [intOf]; omega
    · have hltI : ¬ (k : Int) < (n : Int) := by omega
      go_wp2_with fail
      go_ret
      exact ⟨rfl, hb⟩
end Go.Proofs.Qxb6609544aDoor
