import Derived.Test.Qxb6609544aDoorCmp
namespace Go.Proofs.Qxb6609544aDoor
open Go.RowKit

/-- The first that is not nought. -/
def orZ (x y : Int) : Int := if x = 0 then y else x

set_option maxRecDepth 100000 in
set_option maxHeartbeats 800000 in
theorem cmpOr (g cap : Nat) (x y : Int) (w : World) (h0 : w.cell? ⟨g, 0, none⟩ = some (.int .i64 x)) (h1 : w.cell? ⟨g, 1, none⟩ = some (.int .i64 y)) :
    Calls Tryd.prog 49 #[.slice (some ⟨g, 0, none⟩) 2 cap] w fun e w' => e = .returned (.int .i64 (orZ x y)) ∧ w' = w := by
  by_cases hx : x = 0
  · have hv : orZ x y = y := if_pos hx
    have HV : Hid _ := hv
    clear hv
    subst hx
    by_cases hy : y = 0
    · subst hy
      go_enter Tryd.func49, Tryd.ntmps49
      go_wp2_with fail
      refine wp_loop_rounds 3 ?_
      rw [rounds_succ]
      go_wp2_with fail
      rw [rounds_succ]
      go_wp2_with fail
      rw [rounds_succ]
      go_wp2_with fail
      go_ret
      exact ⟨ret_int HV.out.symm, rfl⟩
    · go_enter Tryd.func49, Tryd.ntmps49
      go_wp2_with fail
      refine wp_loop_rounds 2 ?_
      rw [rounds_succ]
      go_wp2_with fail
      rw [rounds_succ]
      go_wp2_with fail
      go_ret
      exact ⟨ret_int HV.out.symm, rfl⟩
  · have hv : orZ x y = x := if_neg hx
    have HV : Hid _ := hv
    clear hv
    go_enter Tryd.func49, Tryd.ntmps49
    go_wp2_with fail
    refine wp_loop_rounds 1 ?_
    rw [rounds_succ]
    go_wp2_with fail
    go_ret
    exact ⟨ret_int HV.out.symm, rfl⟩

/-- The order of entries. -/
def cmpE (x y : Int × Int) : Int := orZ (cmpZ x.1 y.1) (cmpZ x.2 y.2)

/-- The two boxes of a comparison of entries, in a world behind W. -/
abbrev Ent2 (W : World) (g : Nat) (zp : Addr) (a b c d : Int) (w : World) : Prop :=
  (∀ j, w.cell? ⟨g, j, none⟩ = #[Value.int .u64 0, .int .u64 (low a), .pointer (some zp), .int .u64 0, .int .u64 (low b), .pointer (some zp)][j]?) ∧
  (∀ j, w.cell? ⟨g + 1, j, none⟩ = #[Value.int .u64 0, .int .u64 (low c), .pointer (some zp), .int .u64 0, .int .u64 (low d), .pointer (some zp)][j]?) ∧
  Zed w zp ∧ g + 1 < w.heap.size ∧ Bel W w
theorem Ent2.zed {W w : World} {g : Nat} {zp : Addr} {a b c d : Int} (h : Ent2 W g zp a b c d w) : Zed w zp := h.2.2.1
theorem Ent2.bel {W w : World} {g : Nat} {zp : Addr} {a b c d : Int} (h : Ent2 W g zp a b c d w) : Bel W w := h.2.2.2.2
theorem Ent2.keep {W w w' : World} {g : Nat} {zp : Addr} {a b c d : Int} (h : Ent2 W g zp a b c d w) (k : Bel w w') : Ent2 W g zp a b c d w' :=
  ⟨fun j => (k.below.cell (p := ⟨g, j, none⟩) (by have := h.2.2.2.1; show g < _; omega)).trans (h.1 j), fun j => (k.below.cell (p := ⟨g + 1, j, none⟩) h.2.2.2.1).trans (h.2.1 j), h.2.2.1.bel k, Nat.lt_of_lt_of_le h.2.2.2.1 k.size, h.2.2.2.2.trans k⟩

set_option maxRecDepth 100000 in
set_option maxHeartbeats 4000000 in
theorem compare (zp : Addr) (a b c d : Int) (w : World) (hz : Zed w zp) :
    Calls Tryd.prog 32 #[entV zp a b, entV zp c d] w fun e w' => e = .returned (.int .i64 (cmpE (a, b) (c, d))) ∧ Bel w w' := by
  have hz2 : Zed ((w.alloc (.cells #[.int .u64 0, .int .u64 (low a), .pointer (some zp), .int .u64 0, .int .u64 (low b), .pointer (some zp)] 49)).alloc (.cells #[.int .u64 0, .int .u64 (low c), .pointer (some zp), .int .u64 0, .int .u64 (low d), .pointer (some zp)] 49)) zp := (hz.alloc _).alloc _
  have hb0 : Bel w ((w.alloc (.cells #[.int .u64 0, .int .u64 (low a), .pointer (some zp), .int .u64 0, .int .u64 (low b), .pointer (some zp)] 49)).alloc (.cells #[.int .u64 0, .int .u64 (low c), .pointer (some zp), .int .u64 0, .int .u64 (low d), .pointer (some zp)] 49)) := ((Bel.refl w).alloc _).alloc _
  have s1 := (Slot.new w #[.int .u64 0, .int .u64 (low a), .pointer (some zp), .int .u64 0, .int .u64 (low b), .pointer (some zp)] 49).alloc (.cells #[.int .u64 0, .int .u64 (low c), .pointer (some zp), .int .u64 0, .int .u64 (low d), .pointer (some zp)] 49)
  have s2 := Slot.new (w.alloc (.cells #[.int .u64 0, .int .u64 (low a), .pointer (some zp), .int .u64 0, .int .u64 (low b), .pointer (some zp)] 49)) #[.int .u64 0, .int .u64 (low c), .pointer (some zp), .int .u64 0, .int .u64 (low d), .pointer (some zp)] 49
  go_enter Tryd.func32, Tryd.ntmps32
  go_wp2_with fail
  generalize (w.alloc (.cells #[.int .u64 0, .int .u64 (low a), .pointer (some zp), .int .u64 0, .int .u64 (low b), .pointer (some zp)] 49)).alloc (.cells #[.int .u64 0, .int .u64 (low c), .pointer (some zp), .int .u64 0, .int .u64 (low d), .pointer (some zp)] 49) = W0 at *
  simp only [World.size_alloc] at s2
  have hS : Ent2 w w.heap.size zp a b c d W0 := ⟨s1.cell, s2.cell, hz2, s2.lt, hb0⟩
  clear s1 s2 hz2 hb0 hz
  go_region_held3 (fun w' => (∀ j, w'.cell? ⟨w.heap.size, j, none⟩ = #[Value.int .u64 0, .int .u64 (low a), .pointer (some zp), .int .u64 0, .int .u64 (low b), .pointer (some zp)][j]?) ∧ (∀ j, w'.cell? ⟨w.heap.size + 1, j, none⟩ = #[Value.int .u64 0, .int .u64 (low c), .pointer (some zp), .int .u64 0, .int .u64 (low d), .pointer (some zp)][j]?) ∧ Zed w' zp ∧ w.heap.size + 1 < w'.heap.size ∧ Bel w w') (first | assumption | exact Ent2.keep (by assumption) (Bel.refl _).drew | exact Ent2.keep (by assumption) (by assumption) | exact Ent2.keep (by assumption) ((Bel.refl _).alloc _)) (first | (go_at_call 50; refine (addrCmp zp _ _ _ (Ent2.zed (by assumption))).mono ?_; rintro e w1 ⟨rfl, hb1⟩) | (go_at_call 49; refine (cmpOr _ _ _ _ _ ((cell_newest _ _ _ _ rfl 0).trans rfl) ((cell_newest _ _ _ _ rfl 1).trans rfl)).mono ?_; rintro e w1 ⟨rfl, rfl⟩))
  have hB := Ent2.bel (W := w) (g := w.heap.size) (zp := zp) (a := a) (b := b) (c := c) (d := d) (by assumption)
  go_wp2
  go_ret
  exact ⟨rfl, hB⟩
end Go.Proofs.Qxb6609544aDoor
