import Derived.Test.Qxb6609544aBits
import Derived.Laws.CopyOwn
import Derived.Deep.OwnRows
namespace Go.Proofs.Qxb6609544a
open Go.RowKit

theorem info5 : (Try.prog.info? 5).map (fun i => (i.zero, i.size, i.bytes)) = some (some (.int .u8 0), 1, 1) := by kernel_rfl
theorem size5 : (Try.prog.info? 5).map (·.size) = some 1 := by kernel_rfl

/-- 'zzc := make([]byte, n); copy(zzc, b)': behind it the new block holds b's bytes; nothing older has turned. -/
theorem copied (b off n cap : Nat) (zs : List Int) (w : World) (hcap : n ≤ cap) (hl : zs.length = cap) (hb : b < w.heap.size)
    (hc : ∀ k, k < zs.length → w.cell? ⟨b, off + k, none⟩ = some (.int .u8 (zs.getD k 0))) :
    ∃ W2, (Builtin.copy_ #[22, 22] 3 #[.slice (some ⟨w.heap.size, 0, none⟩) n n, .slice (some ⟨b, off, none⟩) n cap]).run Try.prog (w.alloc (.cells (madeCells #[.int .u8 0] n) 5)) = .ok (.int .i64 n) W2 ∧
      Below w.heap.size w W2 ∧ (∀ k, k < n → W2.cell? ⟨w.heap.size, k, none⟩ = some (.int .u8 (zs.getD k 0))) := by
  have hlen : ((zs.take n).map (Value.int .u8)).length = n := by simp; omega
  have hsz : (madeCells #[Value.int .u8 0] n).size = n := size_madeCells _ _
  have hg : (w.alloc (.cells (madeCells #[Value.int .u8 0] n) 5)).heap[w.heap.size]? = some (.cells (madeCells #[Value.int .u8 0] n) 5 (0, 0)) := heap_alloc_new _ _
  have h := run_copy_row (P := Try.prog) (w.alloc (.cells (madeCells #[.int .u8 0] n) 5)) 22 22 3 5 w.heap.size 0 n n ⟨b, off, none⟩ n cap (madeCells #[.int .u8 0] n) 5 ((zs.take n).map (Value.int .u8))
    Try.underlying22 size5 hg (by rw [hlen]; simp) (by
      intro j v hj
      have hjn : j < n := by have := (List.getElem?_eq_some_iff.1 hj).1; omega
      have e : v = .int .u8 (zs.getD j 0) := by
        simp [List.getElem?_map, hjn] at hj
        obtain ⟨a, ha, rfl⟩ := hj
        simp [List.getD, ha]
      rw [e, ← hc j (by omega), show (⟨b, off, none⟩ : Addr).add j = ⟨b, off + j, none⟩ from by simp [Addr.add]]
      exact ((Below.refl w.heap.size w).alloc (Nat.le_refl _) (.cells (madeCells #[.int .u8 0] n) 5)).cell (p := ⟨b, off + j, none⟩) hb) (by rw [hlen, hsz]; omega) (by
      intro v hv
      obtain ⟨a, _, rfl⟩ := List.mem_map.1 hv
      rfl)
  rw [hlen] at h
  refine ⟨_, h, below_setRow ((Below.refl _ _).alloc (Nat.le_refl _) _) (Nat.le_refl _) _, fun k hk => ?_⟩
  rw [cell_setRow_same _ _ _ _ _ _ _ hg]
  have hk' : k < zs.length := by omega
  have e1 : ((zs.take n).map (Value.int .u8))[k]? = some (.int .u8 (zs.getD k 0)) := by
    rw [List.getElem?_map, List.getElem?_take, if_pos hk, List.getElem?_eq_getElem hk']
    simp [List.getD, List.getElem?_eq_getElem hk']
  simp only [List.take_zero, List.nil_append, List.getElem?_toArray]
  rw [List.getElem?_append_left (by rw [hlen]; exact hk)]
  exact e1

/-- The powers that the law reckons. -/
theorem pows (j : Nat) (hj : j < 8) : ∃ L : Int, wrap64 (2 ^ (8 - j)) = 2 * L ∧ wrap64 (2 ^ (7 - j)) = L ∧ (2 : Int) ^ (7 - j) = L ∧ 1 ≤ L ∧ L ≤ 128 := by
  match j, hj with
  | 0, _ => exact ⟨128, by decide +kernel, by decide +kernel, by decide +kernel, by omega, by omega⟩
  | 1, _ => exact ⟨64, by decide +kernel, by decide +kernel, by decide +kernel, by omega, by omega⟩
  | 2, _ => exact ⟨32, by decide +kernel, by decide +kernel, by decide +kernel, by omega, by omega⟩
  | 3, _ => exact ⟨16, by decide +kernel, by decide +kernel, by decide +kernel, by omega, by omega⟩
  | 4, _ => exact ⟨8, by decide +kernel, by decide +kernel, by decide +kernel, by omega, by omega⟩
  | 5, _ => exact ⟨4, by decide +kernel, by decide +kernel, by decide +kernel, by omega, by omega⟩
  | 6, _ => exact ⟨2, by decide +kernel, by decide +kernel, by decide +kernel, by omega, by omega⟩
  | 7, _ => exact ⟨1, by decide +kernel, by decide +kernel, by decide +kernel, by omega, by omega⟩
theorem bit_hi (z L : Int) (hL : 1 ≤ L) (h : L ≤ z % (2 * L)) : z / L % 2 = 1 := by
  have h1 := Int.emod_lt_of_pos z (show 0 < 2 * L by omega)
  have h2 := Int.mul_ediv_add_emod z (2 * L)
  have h3 : z / L = 2 * (z / (2 * L)) + 1 := by
    have : z = L * (2 * (z / (2 * L)) + 1) + (z % (2 * L) - L) := by
      have e : L * (2 * (z / (2 * L)) + 1) = 2 * L * (z / (2 * L)) + L := by
        rw [Int.mul_add, Int.mul_one, ← Int.mul_assoc, Int.mul_comm L 2]
      omega
    exact ((Int.ediv_emod_unique (r := z % (2 * L) - L) (by omega)).2 ⟨by omega, by omega, by omega⟩).1
  omega
theorem bit_lo (z L : Int) (hL : 1 ≤ L) (h : z % (2 * L) < L) : z / L % 2 = 0 := by
  have h1 := Int.emod_nonneg z (show 2 * L ≠ 0 by omega)
  have h2 := Int.mul_ediv_add_emod z (2 * L)
  have h3 : z / L = 2 * (z / (2 * L)) := by
    have e : L * (2 * (z / (2 * L))) = 2 * L * (z / (2 * L)) := by
      rw [← Int.mul_assoc, Int.mul_comm L 2]
    exact ((Int.ediv_emod_unique (r := z % (2 * L)) (by omega)).2 ⟨by omega, by omega, by omega⟩).1
  omega

set_option maxHeartbeats 400000 in
theorem exact_core (b off n cap i : Nat) (zs : List Int) (w : World) (hn : n ≤ 1048576) (hi : i < 8 * n) (hcap : n ≤ cap) (hl : zs.length = cap) (hb : b < w.heap.size)
    (hc : ∀ k, k < zs.length → w.cell? ⟨b, off + k, none⟩ = some (.int .u8 (zs.getD k 0))) (hz : ∀ z ∈ zs, 0 ≤ z ∧ z ≤ 255) :
    Calls Try.prog 4 #[.slice (some ⟨b, off, none⟩) n cap, .int .i64 i] w fun e w' => e = .returned (.bool true) ∧ Below w.heap.size w w' := by
  have hmk := run_make_row' (P := Try.prog) 22 5 (.int .u8 0) 1 Try.underlying22 info5 rfl .i64 .i64 n (by omega) (by omega)
  have hne := fun w => run_neq_slice_nil_any (P := Try.prog) w 22 5 (some ⟨b, off, none⟩) n cap 0 0 Try.underlying22
  obtain ⟨W2, hcp, hbel, hcell⟩ := copied b off n cap zs w hcap hl hb hc
  have hki : i / 8 < n := by omega
  have hki' : i / 8 < zs.length := by omega
  have hcz := hcell (i / 8) hki
  have hcz' : Hid (W2.cell? ⟨w.heap.size, 0 + i / 8, none⟩ = some (.int .u8 (zs.getD (i / 8) 0))) := by rw [Nat.zero_add]; exact hcz
  obtain ⟨z, hzz⟩ : ∃ z, z = zs.getD (i / 8) 0 := ⟨_, rfl⟩
  rw [← hzz] at hcz hcz'
  have hzr : 0 ≤ z ∧ z ≤ 255 := by
    rw [hzz, List.getD_eq_getElem?_getD, List.getElem?_eq_getElem hki']
    exact hz _ (List.getElem_mem _)
  obtain ⟨hz0, hz1⟩ := hzr
  clear hzz hcell hz hc
  obtain ⟨L, e1, e2, e3, hL1, hL2⟩ := pows (i % 8) (by omega)
  obtain ⟨M, hM⟩ : ∃ M, M = 2 * L := ⟨_, rfl⟩
  rw [← hM] at e1
  by_cases hcmp : L ≤ z % M
  · have eb : bitOf z (i % 8) = 1 := by unfold bitOf; rw [e3]; exact bit_hi z L hL1 (hM ▸ hcmp)
    have hM1 : 2 ≤ M := by omega
    have hM2 : M ≤ 256 := by omega
    clear e3 hM
    go_enter Try.func4, Try.ntmps4
    go_wp2_with (first | (go_at_call 7; go_in) | fail)
    refine (zzbitat w.heap.size 0 n n i _ z _ rfl hn hki hcz'.out hz0 hz1).mono ?_
    rintro e w' ⟨rfl, rfl⟩
    rw [eb]
    go_wp2
    go_ret
    exact ⟨rfl, hbel⟩
  · have eb : bitOf z (i % 8) = 0 := by unfold bitOf; rw [e3]; exact bit_lo z L hL1 (by rw [← hM]; omega)
    have hM1 : 2 ≤ M := by omega
    have hM2 : M ≤ 256 := by omega
    clear e3 hM
    go_enter Try.func4, Try.ntmps4
    go_wp2_with (first | (go_at_call 7; go_in) | fail)
    refine (zzbitat w.heap.size 0 n n i _ z _ rfl hn hki hcz'.out hz0 hz1).mono ?_
    rintro e w' ⟨rfl, rfl⟩
    rw [eb]
    go_wp2
    go_ret
    exact ⟨rfl, hbel⟩
end Go.Proofs.Qxb6609544a
