import Derived.Test.Qxb6609544aDoorTree
namespace Go.Proofs.Qxb6609544aDoor
open Go.RowKit

/-- The k-th of four. -/
def nth (a0 a1 a2 a3 : Int) : Nat → Int
  | 0 => a0
  | 1 => a1
  | 2 => a2
  | _ => a3
def Byt (a : Int) : Prop := 0 ≤ a ∧ a ≤ 255

set_option maxRecDepth 100000 in
set_option maxHeartbeats 4000000 in
theorem cmp4 (a0 a1 a2 a3 b0 b1 b2 b3 : Int) (w : World) (ha : Byt a0 ∧ Byt a1 ∧ Byt a2 ∧ Byt a3) (hb : Byt b0 ∧ Byt b1 ∧ Byt b2 ∧ Byt b3) :
    Calls Tryd.prog 25 #[.agg #[.int .u8 a0, .int .u8 a1, .int .u8 a2, .int .u8 a3], .agg #[.int .u8 b0, .int .u8 b1, .int .u8 b2, .int .u8 b3]] w fun e w' => e = .returned (.int .i64 (cmpZ (num4 a0 a1 a2 a3) (num4 b0 b1 b2 b3))) ∧ Bel w w' := by
  unfold Byt at ha hb
  have hW : Bel w ((w.alloc (.cells #[.int .u8 a0, .int .u8 a1, .int .u8 a2, .int .u8 a3] 35)).alloc (.cells #[.int .u8 b0, .int .u8 b1, .int .u8 b2, .int .u8 b3] 35)) := ((Bel.refl w).alloc _).alloc _
  have s1 := (Slot.new w #[.int .u8 a0, .int .u8 a1, .int .u8 a2, .int .u8 a3] 35).alloc (.cells #[.int .u8 b0, .int .u8 b1, .int .u8 b2, .int .u8 b3] 35)
  have s2 : Slot ((w.alloc (.cells #[.int .u8 a0, .int .u8 a1, .int .u8 a2, .int .u8 a3] 35)).alloc (.cells #[.int .u8 b0, .int .u8 b1, .int .u8 b2, .int .u8 b3] 35)) (w.heap.size + 1) #[.int .u8 b0, .int .u8 b1, .int .u8 b2, .int .u8 b3] := by
    have := Slot.new (w.alloc (.cells #[.int .u8 a0, .int .u8 a1, .int .u8 a2, .int .u8 a3] 35)) #[.int .u8 b0, .int .u8 b1, .int .u8 b2, .int .u8 b3] 35
    simp only [World.size_alloc] at this
    exact this
  go_enter Tryd.func25, Tryd.ntmps25
  go_wp2_with fail
  generalize ((w.alloc (.cells #[.int .u8 a0, .int .u8 a1, .int .u8 a2, .int .u8 a3] 35)).alloc (.cells #[.int .u8 b0, .int .u8 b1, .int .u8 b2, .int .u8 b3] 35)) = W0 at *
  have HS1 : Hid (Slot W0 w.heap.size #[.int .u8 a0, .int .u8 a1, .int .u8 a2, .int .u8 a3]) := s1
  have HS2 : Hid (Slot W0 (w.heap.size + 1) #[.int .u8 b0, .int .u8 b1, .int .u8 b2, .int .u8 b3]) := s2
  clear s1 s2
  go_loopw [5] (fun i wr => ∃ k : Nat, k ≤ 4 ∧ i = .int .i64 k ∧ (∀ i, i < k → nth a0 a1 a2 a3 i = nth b0 b1 b2 b3 i) ∧ Bel W0 wr) (fun i _ => 4 - (intOf i).toNat)
  case atStart => exact ⟨0, by omega, rfl, fun i hi => by omega, Bel.refl _⟩
  case round =>
    obtain ⟨k, hk, rfl, heq, hbW⟩ := hrel
    have hbe := hW.trans hbW
    have c1 := (HS1.out.bel hbW).cell
    have c2 := (HS2.out.bel hbW).cell
    have HQ : Hid (∀ i, i < k → nth a0 a1 a2 a3 i = nth b0 b1 b2 b3 i) := heq
    have e0 : 0 < k → a0 = b0 := fun h => heq 0 h
    have e1 : 1 < k → a1 = b1 := fun h => heq 1 h
    have e2 : 2 < k → a2 = b2 := fun h => heq 2 h
    have e3 : 3 < k → a3 = b3 := fun h => heq 3 h
    clear heq
    rcases (by omega : k = 0 ∨ k = 1 ∨ k = 2 ∨ k = 3 ∨ k = 4) with rfl | rfl | rfl | rfl | rfl
    · have hv1 : a0 < b0 → cmpZ (num4 a0 a1 a2 a3) (num4 b0 b1 b2 b3) = -1 := fun h => by unfold cmpZ num4; rw [if_pos (by omega)]
      have hv2 : b0 < a0 → cmpZ (num4 a0 a1 a2 a3) (num4 b0 b1 b2 b3) = 1 := fun h => by unfold cmpZ num4; rw [if_neg (by omega), if_pos (by omega)]
      have HV1 : Hid (a0 < b0 → cmpZ (num4 a0 a1 a2 a3) (num4 b0 b1 b2 b3) = -1) := hv1
      have HV2 : Hid (b0 < a0 → cmpZ (num4 a0 a1 a2 a3) (num4 b0 b1 b2 b3) = 1) := hv2
      clear hv1 hv2 ha hb e0 e1 e2 e3
      go_wp2_with fail
      go_quiet (fail)
      by_cases c1 : a0 < b0
      · have hd : decide (a0 < b0) = true := by simp [c1]
        go_wp2_with fail
        go_ret
        exact ⟨ret_int (HV1.out c1).symm, (hbe.drewN _)⟩
      · have hd : decide (a0 < b0) = false := by simp; omega
        go_wp2_with fail
        go_quiet (fail)
        by_cases c2 : b0 < a0
        · have hd2 : decide (b0 < a0) = true := by simp [c2]
          go_wp2_with fail
          go_ret
          exact ⟨ret_int (HV2.out c2).symm, (hbe.drewN _).drewN _⟩
        · have hd2 : decide (b0 < a0) = false := by simp; omega
          go_wp2_with fail
          go_roundw
          case rel => exact ⟨1, by omega, rfl, fun i hi => (Nat.lt_or_eq_of_le (Nat.le_of_lt_succ hi)).elim (HQ.out i) (fun e => e ▸ (show a0 = b0 from by omega)), hbW.drewN _⟩
          case measure => simp [intOf]
    · have hv1 : a1 < b1 → cmpZ (num4 a0 a1 a2 a3) (num4 b0 b1 b2 b3) = -1 := fun h => by unfold cmpZ num4; rw [if_pos (by omega)]
      have hv2 : b1 < a1 → cmpZ (num4 a0 a1 a2 a3) (num4 b0 b1 b2 b3) = 1 := fun h => by unfold cmpZ num4; rw [if_neg (by omega), if_pos (by omega)]
      have HV1 : Hid (a1 < b1 → cmpZ (num4 a0 a1 a2 a3) (num4 b0 b1 b2 b3) = -1) := hv1
      have HV2 : Hid (b1 < a1 → cmpZ (num4 a0 a1 a2 a3) (num4 b0 b1 b2 b3) = 1) := hv2
      clear hv1 hv2 ha hb e0 e1 e2 e3
      go_wp2_with fail
      go_quiet (fail)
      by_cases c1 : a1 < b1
      · have hd : decide (a1 < b1) = true := by simp [c1]
        go_wp2_with fail
        go_ret
        exact ⟨ret_int (HV1.out c1).symm, (hbe.drewN _)⟩
      · have hd : decide (a1 < b1) = false := by simp; omega
        go_wp2_with fail
        go_quiet (fail)
        by_cases c2 : b1 < a1
        · have hd2 : decide (b1 < a1) = true := by simp [c2]
          go_wp2_with fail
          go_ret
          exact ⟨ret_int (HV2.out c2).symm, (hbe.drewN _).drewN _⟩
        · have hd2 : decide (b1 < a1) = false := by simp; omega
          go_wp2_with fail
          go_roundw
          case rel => exact ⟨2, by omega, rfl, fun i hi => (Nat.lt_or_eq_of_le (Nat.le_of_lt_succ hi)).elim (HQ.out i) (fun e => e ▸ (show a1 = b1 from by omega)), hbW.drewN _⟩
          case measure => simp [intOf]
    · have hv1 : a2 < b2 → cmpZ (num4 a0 a1 a2 a3) (num4 b0 b1 b2 b3) = -1 := fun h => by unfold cmpZ num4; rw [if_pos (by omega)]
      have hv2 : b2 < a2 → cmpZ (num4 a0 a1 a2 a3) (num4 b0 b1 b2 b3) = 1 := fun h => by unfold cmpZ num4; rw [if_neg (by omega), if_pos (by omega)]
      have HV1 : Hid (a2 < b2 → cmpZ (num4 a0 a1 a2 a3) (num4 b0 b1 b2 b3) = -1) := hv1
      have HV2 : Hid (b2 < a2 → cmpZ (num4 a0 a1 a2 a3) (num4 b0 b1 b2 b3) = 1) := hv2
      clear hv1 hv2 ha hb e0 e1 e2 e3
      go_wp2_with fail
      go_quiet (fail)
      by_cases c1 : a2 < b2
      · have hd : decide (a2 < b2) = true := by simp [c1]
        go_wp2_with fail
        go_ret
        exact ⟨ret_int (HV1.out c1).symm, (hbe.drewN _)⟩
      · have hd : decide (a2 < b2) = false := by simp; omega
        go_wp2_with fail
        go_quiet (fail)
        by_cases c2 : b2 < a2
        · have hd2 : decide (b2 < a2) = true := by simp [c2]
          go_wp2_with fail
          go_ret
          exact ⟨ret_int (HV2.out c2).symm, (hbe.drewN _).drewN _⟩
        · have hd2 : decide (b2 < a2) = false := by simp; omega
          go_wp2_with fail
          go_roundw
          case rel => exact ⟨3, by omega, rfl, fun i hi => (Nat.lt_or_eq_of_le (Nat.le_of_lt_succ hi)).elim (HQ.out i) (fun e => e ▸ (show a2 = b2 from by omega)), hbW.drewN _⟩
          case measure => simp [intOf]
    · have hv1 : a3 < b3 → cmpZ (num4 a0 a1 a2 a3) (num4 b0 b1 b2 b3) = -1 := fun h => by unfold cmpZ num4; rw [if_pos (by omega)]
      have hv2 : b3 < a3 → cmpZ (num4 a0 a1 a2 a3) (num4 b0 b1 b2 b3) = 1 := fun h => by unfold cmpZ num4; rw [if_neg (by omega), if_pos (by omega)]
      have HV1 : Hid (a3 < b3 → cmpZ (num4 a0 a1 a2 a3) (num4 b0 b1 b2 b3) = -1) := hv1
      have HV2 : Hid (b3 < a3 → cmpZ (num4 a0 a1 a2 a3) (num4 b0 b1 b2 b3) = 1) := hv2
      clear hv1 hv2 ha hb e0 e1 e2 e3
      go_wp2_with fail
      go_quiet (fail)
      by_cases c1 : a3 < b3
      · have hd : decide (a3 < b3) = true := by simp [c1]
        go_wp2_with fail
        go_ret
        exact ⟨ret_int (HV1.out c1).symm, (hbe.drewN _)⟩
      · have hd : decide (a3 < b3) = false := by simp; omega
        go_wp2_with fail
        go_quiet (fail)
        by_cases c2 : b3 < a3
        · have hd2 : decide (b3 < a3) = true := by simp [c2]
          go_wp2_with fail
          go_ret
          exact ⟨ret_int (HV2.out c2).symm, (hbe.drewN _).drewN _⟩
        · have hd2 : decide (b3 < a3) = false := by simp; omega
          go_wp2_with fail
          go_roundw
          case rel => exact ⟨4, by omega, rfl, fun i hi => (Nat.lt_or_eq_of_le (Nat.le_of_lt_succ hi)).elim (HQ.out i) (fun e => e ▸ (show a3 = b3 from by omega)), hbW.drewN _⟩
          case measure => simp [intOf]
    · have hv : cmpZ (num4 a0 a1 a2 a3) (num4 b0 b1 b2 b3) = 0 := by unfold cmpZ num4; rw [if_neg (by omega), if_neg (by omega)]
      have HV : Hid _ := hv
      clear hv e0 e1 e2 e3
      go_wp2_with fail
      go_ret
      exact ⟨ret_int HV.out.symm, hbe⟩
end Go.Proofs.Qxb6609544aDoor
