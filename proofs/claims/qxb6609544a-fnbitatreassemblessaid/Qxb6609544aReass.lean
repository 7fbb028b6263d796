import Derived.Test.Qxb6609544aExact
namespace Go.Proofs.Qxb6609544a
open Go.RowKit

/-- What the first j bits spell. -/
def accOf (z : Int) (j : Nat) : Int := z / 2 ^ (8 - j)
theorem accOf_zero (z : Int) (h0 : 0 ≤ z) (h1 : z ≤ 255) : accOf z 0 = 0 := by
  unfold accOf
  exact Int.ediv_eq_zero_of_lt h0 (by omega)
theorem accOf_eight (z : Int) : accOf z 8 = z := by unfold accOf; simp
theorem accOf_step (z : Int) (j : Nat) (hj : j < 8) : accOf z (j + 1) = accOf z j * 2 + bitOf z j := by
  unfold accOf bitOf
  have e : (2 : Int) ^ (8 - j) = 2 ^ (7 - j) * 2 := by rw [← Int.pow_succ]; congr 1; omega
  rw [e, show 8 - (j + 1) = 7 - j from by omega]
  have h := Int.mul_ediv_add_emod (z / 2 ^ (7 - j)) 2
  rw [← Int.ediv_ediv_of_nonneg (x := z) (Int.pow_nonneg (by decide))]
  omega
theorem accOf_bd (z : Int) (j : Nat) (h0 : 0 ≤ z) (h1 : z ≤ 255) : 0 ≤ accOf z j ∧ accOf z j ≤ 255 := shifted z _ h0 h1

theorem zzbit (b n cap k m : Nat) (x z : Int) (w : World) (hx : x = 8 * (k : Int) + m) (hm : m < 8) (hn : n ≤ 1048576) (hk : k < n) (hc : w.cell? ⟨b, k, none⟩ = some (.int .u8 z)) (hz : 0 ≤ z) (hz' : z ≤ 255) :
    Calls Try.prog 6 #[.slice (some ⟨b, 0, none⟩) n cap, .int .i64 x] w fun e w' => e = .returned (.int .u8 (bitOf z m)) ∧ w' = w := by
  have h := zzbitat b 0 n cap (8 * k + m) x z w (by omega) hn (by omega) (by rw [Nat.zero_add, show (8 * k + m) / 8 = k from by omega]; exact hc) hz hz'
  rw [show (8 * k + m) % 8 = m from by omega] at h
  exact h

set_option maxHeartbeats 400000 in
theorem reass_nil (w : World) : Calls Try.prog 3 #[.slice none 0 0] w fun e w' => e = .returned (.bool true) ∧ Below w.heap.size w w' := by
  have hne := fun w => run_neq_slice_nil_any (P := Try.prog) w 22 5 none 0 0 0 0 Try.underlying22
  go_enter Try.func3, Try.ntmps3
  go_wp2_with (first | (go_at_call 5; go_in) | fail)
  go_loop [4] (fun i => i = .int .i64 0) (fun _ => 0)
  case atStart => rfl
  case round =>
    subst hrel
    go_wp2
    go_ret
    exact ⟨rfl, Below.refl _ _⟩

set_option maxHeartbeats 400000 in
theorem reass_empty (x : Addr) (cap : Nat) (w : World) : Calls Try.prog 3 #[.slice (some x) 0 cap] w fun e w' => e = .returned (.bool true) ∧ Below w.heap.size w w' := by
  have hne := fun w => run_neq_slice_nil_any (P := Try.prog) w 22 5 (some x) 0 cap 0 0 Try.underlying22
  have hmk : ∀ w, (Instr.makeSlice 22 (.int .i64 0) (.int .i64 0)).run Try.prog w = .ok (.slice (some ⟨w.heap.size, 0, none⟩) 0 0) (w.alloc (.cells (madeCells #[.int .u8 0] 0) 5)) :=
    run_make_row' (P := Try.prog) 22 5 (.int .u8 0) 1 Try.underlying22 info5 rfl .i64 .i64 0 (by omega) (by omega)
  have hcp := fun w => run_copy_none (P := Try.prog) w 22 22 3 5 (some ⟨w.heap.size - 1, 0, none⟩) (some x) 0 0 0 cap Try.underlying22 size5 rfl
  have hcp' := hcp (w.alloc (.cells (madeCells #[.int .u8 0] 0) 5))
  simp only [World.size_alloc, Nat.add_sub_cancel] at hcp'
  clear hcp
  go_enter Try.func3, Try.ntmps3
  go_wp2_with (first | (go_at_call 5; go_in) | fail)
  go_loop [4] (fun i => i = .int .i64 0) (fun _ => 0)
  case atStart => rfl
  case round =>
    subst hrel
    go_wp2
    go_ret
    exact ⟨rfl, (Below.refl _ _).alloc (Nat.le_refl _) _⟩

set_option maxHeartbeats 400000 in
theorem reass_core (b off n cap : Nat) (zs : List Int) (w : World) (hn : n ≤ 1048576) (hcap : n ≤ cap) (hl : zs.length = cap) (hb : b < w.heap.size)
    (hc : ∀ k, k < zs.length → w.cell? ⟨b, off + k, none⟩ = some (.int .u8 (zs.getD k 0))) (hz : ∀ z ∈ zs, 0 ≤ z ∧ z ≤ 255) :
    Calls Try.prog 3 #[.slice (some ⟨b, off, none⟩) n cap] w fun e w' => e = .returned (.bool true) ∧ Below w.heap.size w w' := by
  have hmk := run_make_row' (P := Try.prog) 22 5 (.int .u8 0) 1 Try.underlying22 info5 rfl .i64 .i64 n (by omega) (by omega)
  have hne := fun w => run_neq_slice_nil_any (P := Try.prog) w 22 5 (some ⟨b, off, none⟩) n cap 0 0 Try.underlying22
  obtain ⟨W2, hcp, hbel, hcell⟩ := copied b off n cap zs w hcap hl hb hc
  have HC : Hid (∀ k, k < n → ∃ z, W2.cell? ⟨w.heap.size, k, none⟩ = some (.int .u8 z) ∧ 0 ≤ z ∧ z ≤ 255) := by
    intro k hk
    have hk' : k < zs.length := by omega
    refine ⟨_, hcell k hk, ?_⟩
    rw [List.getD_eq_getElem?_getD, List.getElem?_eq_getElem hk']
    exact hz _ (List.getElem_mem _)
  clear hcell hz hc
  go_enter Try.func3, Try.ntmps3
  go_wp2_with (first | (go_at_call 5; go_in) | fail)
  go_loop [4] (fun i => ∃ k : Nat, k ≤ n ∧ i = .int .i64 k) (fun i => n - (intOf i).toNat)
  case atStart => exact ⟨0, Nat.zero_le _, rfl⟩
  case round =>
    obtain ⟨k, hk, rfl⟩ := hrel
    by_cases hlt : k < n
    · obtain ⟨z, hcz, hz0, hz1⟩ := HC.out k hlt
      go_wp2_with fail
      go_loop [5, 6] (fun acc j => ∃ m : Nat, m ≤ 8 ∧ j = .int .i64 m ∧ acc = .int .i64 (accOf z m)) (fun _ j => 8 - (intOf j).toNat)
      case atStart => exact ⟨0, Nat.zero_le _, rfl, by rw [accOf_zero z hz0 hz1]⟩
      case round =>
        obtain ⟨m, hm, rfl, rfl⟩ := hrel
        have hab := accOf_bd z m hz0 hz1
        by_cases hm8 : m < 8
        · have hb01 := bitOf_01 z m
          have hst := accOf_step z m hm8
          have HST : Hid (accOf z (m + 1) = accOf z m * 2 + bitOf z m) := hst
          clear hst
          go_wp2_with fail
          refine (zzbit w.heap.size n n k m _ z _ rfl hm8 hn hlt hcz hz0 hz1).mono ?_
          rintro e w' ⟨rfl, rfl⟩
          go_wp2
          go_round
          case rel => exact ⟨m + 1, by omega, by go_num, by rw [HST.out]⟩
          case measure => simp [intOf]; omega
        · have em : m = 8 := by omega
          subst em
          rw [accOf_eight]
          go_wp2_with fail
          exact ⟨⟨k + 1, by omega, by omega⟩, by simp [intOf]; omega⟩
    · go_wp2_with fail
      go_ret
      exact ⟨rfl, hbel⟩
end Go.Proofs.Qxb6609544a
