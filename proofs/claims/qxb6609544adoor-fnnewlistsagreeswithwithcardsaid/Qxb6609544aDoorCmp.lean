import Derived.Test.Qxb6609544aDoorBase
namespace Go.Proofs.Qxb6609544aDoor
open Go.RowKit

/-- The order of numbers: -1, 0 or 1. -/
def cmpZ (a b : Int) : Int := if a < b then -1 else if b < a then 1 else 0

theorem Zed.a1 {w : World} {zp : Addr} (h : Zed w zp) : (∀ o, (w.alloc o).cell? ⟨0, 0, none⟩ = some (.pointer (some zp))) ∧ (∀ o, (w.alloc o).cell? ⟨1, 0, none⟩ = some (.pointer none)) := by
  have two := h.two
  exact ⟨fun o => (World.cell?_alloc_lt _ _ _ (by show 0 < _; omega)).trans h.z4, fun o => (World.cell?_alloc_lt _ _ _ (by show 1 < _; omega)).trans h.z0⟩
theorem Zed.alloc {w : World} {zp : Addr} (h : Zed w zp) (o : Obj) : Zed (w.alloc o) zp := h.below ((Below.refl _ _).alloc (Nat.le_refl _) _)

theorem fields45 : Tryd.prog.underlying 45 = some (.struct (Tryd.prog.fieldsOf 45)) := by kernel_rfl
theorem held45 : Tryd.prog.stoodInHeld 45 = false := by kernel_rfl
theorem ptr43 : Tryd.prog.underlying 43 = some (.pointer (Tryd.prog.pointee 43)) := by kernel_rfl
theorem eqN (zp : Addr) (w : World) : (Op.equalIn 10000 45 (.agg #[.pointer (some zp)]) (.agg #[.pointer none])).run Tryd.prog w = .ok false w := by
  rw [show (10000 : Nat) = 9999 + 1 from rfl, run_equalIn_agg w 9999 45 _ _ fields45 held45]
  simp only [Program.fieldsOf, Tryd.underlying45]
  go_simp
  rw [show (9999 : Nat) = 9998 + 1 from rfl, run_equalIn_pointer_nil w 9998 43 (some zp) ptr43]
  rfl
theorem eqP (d : Nat) (zp : Addr) (w : World) : (Op.equalIn (d + 1) 43 (.pointer (some zp)) (.pointer (some zp))).run Tryd.prog w = .ok true w := by
  have hs : (sizeOf (Tryd.prog.pointee 43)).run Tryd.prog w = .ok 2 w := by kernel_rfl
  simp [Op.equalIn, run_underlying ptr43, sameAddr, hs]
theorem eqY (zp : Addr) (w : World) : (Op.equalIn 10000 45 (.agg #[.pointer (some zp)]) (.agg #[.pointer (some zp)])).run Tryd.prog w = .ok true w := by
  rw [show (10000 : Nat) = 9999 + 1 from rfl, run_equalIn_agg w 9999 45 _ _ fields45 held45]
  simp only [Program.fieldsOf, Tryd.underlying45]
  go_simp
  rw [show (9999 : Nat) = 9998 + 1 from rfl, eqP 9998 zp w]
  rfl
/-- '==' and '!=' at the handles that come up. -/
theorem eqlN (zp : Addr) (w : World) : (binOp .eql 45 (.agg #[.pointer (some zp)]) (.agg #[.pointer none])).run Tryd.prog w = .ok (.bool false) w := by rw [run_eql_struct, eqN]; rfl
theorem eqlY (zp : Addr) (w : World) : (binOp .eql 45 (.agg #[.pointer (some zp)]) (.agg #[.pointer (some zp)])).run Tryd.prog w = .ok (.bool true) w := by rw [run_eql_struct, eqY]; rfl
theorem neqN (zp : Addr) (w : World) : (binOp .neq 45 (.agg #[.pointer (some zp)]) (.agg #[.pointer none])).run Tryd.prog w = .ok (.bool true) w := by rw [run_neq_struct, eqN]; rfl
theorem neqY (zp : Addr) (w : World) : (binOp .neq 45 (.agg #[.pointer (some zp)]) (.agg #[.pointer (some zp)])).run Tryd.prog w = .ok (.bool false) w := by rw [run_neq_struct, eqY]; rfl

set_option maxRecDepth 100000 in
set_option maxHeartbeats 400000 in
theorem bitLen (zp : Addr) (v : Int) (w : World) (hz : Zed w zp) : Calls Tryd.prog 57 #[addrV zp v] w fun e w' => e = .returned (.int .i64 32) ∧ Bel w w' := by
  obtain ⟨g4, g0⟩ := hz.a1
  have q1 := eqlN zp
  have q2 := eqlY zp
  go_enter Tryd.func57, Tryd.ntmps57
  go_wp2_with fail
  go_ret
  exact ⟨rfl, (Bel.refl _).alloc _⟩

set_option maxRecDepth 100000 in
set_option maxHeartbeats 400000 in
theorem is6 (zp : Addr) (v : Int) (w : World) (hz : Zed w zp) : Calls Tryd.prog 58 #[addrV zp v] w fun e w' => e = .returned (.bool false) ∧ Bel w w' := by
  obtain ⟨g4, g0⟩ := hz.a1
  have q1 := neqN zp
  have q2 := neqY zp
  go_enter Tryd.func58, Tryd.ntmps58
  go_wp2_with fail
  go_ret
  exact ⟨rfl, (Bel.refl _).alloc _⟩

theorem cmpZ_low (a b : Int) : cmpZ (low a) (low b) = cmpZ a b := by
  unfold cmpZ low
  have h1 : (281470681743360 + a < 281470681743360 + b) ↔ a < b := by omega
  have h2 : (281470681743360 + b < 281470681743360 + a) ↔ b < a := by omega
  simp only [h1, h2]

/-- The two boxes of a comparison, in every world that has kept them. -/
theorem boxes {w : World} {x y : Int} {zp : Addr} (V : World) (k : Below ((w.alloc (.cells #[.int .u64 0, .int .u64 x, .pointer (some zp)] 47)).alloc (.cells #[.int .u64 0, .int .u64 y, .pointer (some zp)] 47)).heap.size ((w.alloc (.cells #[.int .u64 0, .int .u64 x, .pointer (some zp)] 47)).alloc (.cells #[.int .u64 0, .int .u64 y, .pointer (some zp)] 47)) V) :
    Slot V w.heap.size #[.int .u64 0, .int .u64 x, .pointer (some zp)] ∧ Slot V (w.heap.size + 1) #[.int .u64 0, .int .u64 y, .pointer (some zp)] := by
  refine ⟨((Slot.new w _ 47).alloc _).below k, ?_⟩
  have := (Slot.new (w.alloc (.cells #[.int .u64 0, .int .u64 x, .pointer (some zp)] 47)) #[.int .u64 0, .int .u64 y, .pointer (some zp)] 47).below k
  simpa using this

set_option maxRecDepth 100000 in
set_option maxHeartbeats 1000000 in
theorem addrCmp' (zp : Addr) (x y : Int) (w : World) (hz : Zed w zp) (hbl : ∀ v W, Zed W zp → Calls Tryd.prog 57 #[.agg #[.int .u64 0, .int .u64 v, .pointer (some zp)]] W fun e w' => e = .returned (.int .i64 32) ∧ Bel W w')
    (hi6 : ∀ v W, Zed W zp → Calls Tryd.prog 58 #[.agg #[.int .u64 0, .int .u64 v, .pointer (some zp)]] W fun e w' => e = .returned (.bool false) ∧ Bel W w') :
    Calls Tryd.prog 50 #[.agg #[.int .u64 0, .int .u64 x, .pointer (some zp)], .agg #[.int .u64 0, .int .u64 y, .pointer (some zp)]] w fun e w' => e = .returned (.int .i64 (cmpZ x y)) ∧ Bel w w' := by
  have HB : Hid _ := hbl
  have H6 : Hid _ := hi6
  have hz2 : Zed ((w.alloc (.cells #[.int .u64 0, .int .u64 x, .pointer (some zp)] 47)).alloc (.cells #[.int .u64 0, .int .u64 y, .pointer (some zp)] 47)) zp := (hz.alloc _).alloc _
  have HX := fun V k => boxes (w := w) (x := x) (y := y) (zp := zp) V k
  have hb0 : Bel w ((w.alloc (.cells #[.int .u64 0, .int .u64 x, .pointer (some zp)] 47)).alloc (.cells #[.int .u64 0, .int .u64 y, .pointer (some zp)] 47)) := ((Bel.refl w).alloc _).alloc _
  have hnb : w.heap.size + 1 < ((w.alloc (.cells #[.int .u64 0, .int .u64 x, .pointer (some zp)] 47)).alloc (.cells #[.int .u64 0, .int .u64 y, .pointer (some zp)] 47)).heap.size := by simp
  clear hbl hi6 hz
  go_enter Tryd.func50, Tryd.ntmps50
  go_wp2_with fail
  generalize (w.alloc (.cells #[.int .u64 0, .int .u64 x, .pointer (some zp)] 47)).alloc (.cells #[.int .u64 0, .int .u64 y, .pointer (some zp)] 47) = W0 at *
  have HXX : Hid _ := HX
  clear HX
  -- region 1: the two lengths
  have kne := kinNe W0
  have c1 : ∀ p : Kin W0, ∀ j, p.at'.cell? ⟨w.heap.size, j, none⟩ = #[Value.int .u64 0, .int .u64 x, .pointer (some zp)][j]? := fun p => (HXX.out _ p.below).1.cell
  have c2 : ∀ p : Kin W0, ∀ j, p.at'.cell? ⟨w.heap.size + 1, j, none⟩ = #[Value.int .u64 0, .int .u64 y, .pointer (some zp)][j]? := fun p => (HXX.out _ p.below).2.cell
  have HZ : Hid (∀ p : Kin W0, Zed p.at' zp) := fun p => hz2.below p.below
  refine wp_region_kin (by kernel_rfl) (by kernel_rfl) ?_
  repeat (first | go_big_quiet_step ((go_at_call 57; exact kin_of (HB.out _ _ (HZ.out _)))) | quiet_step ((go_at_call 57; exact kin_of (HB.out _ _ (HZ.out _)))))
  refine wpQuiet_nil ?_
  intro w1 hw
  obtain ⟨p, hw⟩ := hw
  have hbe := p.bel
  rw [← hw] at hbe
  have hb1 := hbe.below
  clear hw p c1 c2 HZ kne
  have d1 := (HXX.out _ hb1).1.cell
  have d2 := (HXX.out _ hb1).2.cell
  have hz1 : Zed w1 zp := hz2.below hb1
  have hbw : Bel w w1 := hb0.trans hbe
  clear HXX HB hb1 hbe hz2 hb0
  go_wp2_with fail
  go_quiet (fail)
  go_wp2_with fail
  go_quiet (fail)
  by_cases h1 : x < y
  · have hv : cmpZ x y = -1 := by unfold cmpZ; rw [if_pos h1]
    have HV : Hid _ := hv
    clear hv
    go_wp2_with fail
    go_ret
    exact ⟨ret_int HV.out.symm, hbw.drewN _⟩
  by_cases h2 : y < x
  · have hv : cmpZ x y = 1 := by unfold cmpZ; rw [if_neg h1, if_pos h2]
    have HV : Hid _ := hv
    clear hv
    go_wp2_with fail
    go_ret
    exact ⟨ret_int HV.out.symm, hbw.drewN _⟩
  · have hv : cmpZ x y = 0 := by unfold cmpZ; rw [if_neg h1, if_neg h2]
    have hz3 : ∀ n, Zed (w1.drewN n) zp := fun n => hz1.below (below_drewN (Below.refl _ _) n)
    go_wp2_with fail
    refine (H6.out _ _ (hz3 _)).mono ?_
    rintro e w2 ⟨rfl, hb2⟩
    have hb3 : Bel w w2 := (hbw.drewN _).trans hb2
    go_wp2_with fail
    go_ret
    exact ⟨ret_int hv.symm, hb3⟩

theorem addrCmp (zp : Addr) (a b : Int) (w : World) (hz : Zed w zp) :
    Calls Tryd.prog 50 #[addrV zp a, addrV zp b] w fun e w' => e = .returned (.int .i64 (cmpZ a b)) ∧ Bel w w' := by
  have h := addrCmp' zp (low a) (low b) w hz ?_ ?_
  · rw [cmpZ_low] at h
    exact h
  · intro v W hW
    have := bitLen zp (v - 281470681743360) W hW
    unfold addrV low at this
    rw [show 281470681743360 + (v - 281470681743360) = v from by omega] at this
    exact this
  · intro v W hW
    have := is6 zp (v - 281470681743360) W hW
    unfold addrV low at this
    rw [show 281470681743360 + (v - 281470681743360) = v from by omega] at this
    exact this
end Go.Proofs.Qxb6609544aDoor
