import Derived.Test.Qxb6609485aBs
namespace Go.Proofs.Qxb6609485a
open Go.RowKit
open Go.Lib (compareBytes)

/-- The children of an inner node, as they lie in memory. -/
def Kids (w : World) (a : Option Addr) (n : Nat) (Ps : Nat → Value) (ms : Nat → Int) (ss : Nat → ByteArray) : Prop :=
  ∀ i, i < n → ∃ g off, a = some ⟨g, off, none⟩ ∧ g < w.heap.size ∧ w.cell? ⟨g, off + i * 4, none⟩ = some (Ps i) ∧ w.cell? ⟨g, off + i * 4 + 1, none⟩ = some (.int .i64 (ms i)) ∧
    w.cell? ⟨g, off + i * 4 + 2, none⟩ = some (.int .u64 (head (ss i) : Nat)) ∧ w.cell? ⟨g, off + i * 4 + 3, none⟩ = some (.string (ss i))

set_option maxHeartbeats 1000000 in
theorem searchKids (a : Option Addr) (n cap : Nat) (ss : Nat → ByteArray) (Ps : Nat → Value) (ms : Nat → Int) (b : ByteArray) (w : World) (hn : n ≤ 1048576) (hd : Kids w a n Ps ms ss)
    (hmono : ∀ i j, i < j → j < n → 0 ≤ ordAt ss b i → 0 < ordAt ss b j) :
    Calls Try.prog 32 #[.slice a n cap, keyV b, .func (.func 33) #[] #[]] w fun e w' => ∃ i : Nat, ∃ f : Bool, e = .returned (.tuple #[.int .i64 i, .bool f]) ∧ i ≤ n ∧ (∀ j, j < i → ordAt ss b j < 0) ∧ (∀ j, i ≤ j → j < n → 0 ≤ ordAt ss b j) ∧
      (f = true ↔ i < n ∧ ordAt ss b i = 0) ∧ Below w.heap.size w w' := by
  go_enter Try.func32, Try.ntmps32
  go_wp2_with fail
  go_loopw [9, 10] (fun i j wr => ∃ l h : Nat, l ≤ h ∧ h ≤ n ∧ i = .int .i64 l ∧ j = .int .i64 h ∧ (∀ j, j < l → ordAt ss b j < 0) ∧ (∀ j, h ≤ j → j < n → 0 ≤ ordAt ss b j) ∧ Below (w.heap.size + 1) (w.alloc (.cells #[.int .u64 (head b : Nat), .string b] 40)) wr) (fun i j _ => (intOf j).toNat - (intOf i).toNat)
  case atStart => exact ⟨0, n, Nat.zero_le _, Nat.le_refl _, rfl, rfl, fun j hj => by omega, fun j h1 h2 => by omega, by have := Below.refl (w.heap.size + 1) (w.alloc (.cells #[.int .u64 (head b : Nat), .string b] 40)); exact this⟩
  case round =>
    obtain ⟨l, h, hlh, hhn, rfl, rfl, h1, h2, hbel⟩ := hrel
    have H1 : Hid _ := h1
    have H2 : Hid _ := h2
    clear h1 h2
    have hz : w.heap.size < wr.heap.size := by have := hbel.size; simp at this; omega
    have kne := kinNe wr
    have k0 : ∀ p : Kin wr, p.at'.cell? ⟨w.heap.size, 0, none⟩ = some (.int .u64 (head b : Nat)) := Kin.cell hz ((hbel.cell (p := ⟨w.heap.size, 0, none⟩) (by simp)).trans (by simp))
    have k1 : ∀ p : Kin wr, p.at'.cell? ⟨w.heap.size, 1, none⟩ = some (.string b) := Kin.cell hz ((hbel.cell (p := ⟨w.heap.size, 1, none⟩) (by simp)).trans (by simp))
    by_cases hlt : l < h
    · obtain ⟨g, off, rfl, hg, c0, c1, c2, c3⟩ := hd ((l + h) / 2) (by omega)
      clear hd
      have old : ∀ o, wr.cell? ⟨g, o, none⟩ = w.cell? ⟨g, o, none⟩ := fun o => (hbel.cell (p := ⟨g, o, none⟩) (by simp; omega)).trans (World.cell?_alloc_lt _ _ _ hg)
      rw [← old] at c0 c1 c2 c3
      replace c0 := Kin.cell (show g < wr.heap.size by omega) c0
      replace c1 := Kin.cell (show g < wr.heap.size by omega) c1
      replace c2 := Kin.cell (show g < wr.heap.size by omega) c2
      replace c3 := Kin.cell (show g < wr.heap.size by omega) c3
      clear old
      have hbd : 0 ≤ ((l : Int) + (h : Int)) / 2 ∧ ((l : Int) + (h : Int)) / 2 < (n : Int) := by omega
      have hT : (((l : Int) + (h : Int)) / 2).toNat = (l + h) / 2 := by omega
      go_wp2_with fail
      refine wp_region_kin (by kernel_rfl) (by kernel_rfl) ?_
      repeat (quiet_step ((go_at_call 33; exact kin_of (childcmp _ _ _ _ _))))
      refine wpQuiet_nil ?_
      intro w1 hw
      obtain ⟨p, hw⟩ := hw
      have hb1 := p.below
      rw [← hw] at hb1
      clear hw
      have hb2 : Below (w.heap.size + 1) (w.alloc (.cells #[.int .u64 (head b : Nat), .string b] 40)) w1 := hbel.trans (hb1.mono (by omega))
      clear hb1 hbel c0 c1 c2 c3 k0 k1
      go_wp2
      · have hc : compareBytes (ss ((l + h) / 2)).data.toList b.data.toList < 0 := by assumption
        go_roundw
        case rel => exact ⟨(l + h) / 2 + 1, h, by omega, hhn, by go_num, rfl, bs_up (ord := ordAt ss b) hmono (by omega) hc, H2.out, hb2⟩
        case measure => simp [intOf]; omega
      · have hc : ¬ compareBytes (ss ((l + h) / 2)).data.toList b.data.toList < 0 := by omega
        go_roundw
        case rel => exact ⟨l, (l + h) / 2, by omega, by omega, rfl, by go_num, H1.out, bs_down (ord := ordAt ss b) hmono hc, hb2⟩
        case measure => simp [intOf]; omega
    · have e : h = l := by omega
      subst e
      have hb0 : Below w.heap.size w wr := ((Below.refl _ w).alloc (Nat.le_refl _) _).trans (hbel.mono (by omega))
      by_cases hln : h < n
      · obtain ⟨g, off, rfl, hg, c0, c1, c2, c3⟩ := hd h hln
        clear hd
        have old : ∀ o, wr.cell? ⟨g, o, none⟩ = w.cell? ⟨g, o, none⟩ := fun o => (hbel.cell (p := ⟨g, o, none⟩) (by simp; omega)).trans (World.cell?_alloc_lt _ _ _ hg)
        rw [← old] at c0 c1 c2 c3
        replace c0 := Kin.cell (show g < wr.heap.size by omega) c0
        replace c1 := Kin.cell (show g < wr.heap.size by omega) c1
        replace c2 := Kin.cell (show g < wr.heap.size by omega) c2
        replace c3 := Kin.cell (show g < wr.heap.size by omega) c3
        clear old
        have hd1 : decide ((h : Int) < (n : Int)) = true := by simp; omega
        have hbd : 0 ≤ (h : Int) ∧ (h : Int) < (n : Int) := by omega
        go_wp2_with fail
        refine wp_region_kin (by kernel_rfl) (by kernel_rfl) ?_
        repeat (quiet_step ((go_at_call 33; exact kin_of (childcmp _ _ _ _ _))))
        refine wpQuiet_nil ?_
        intro w1 hw
        obtain ⟨p, hw⟩ := hw
        have hb1 := p.below
        rw [← hw] at hb1
        clear hw
        have hb2 : Below w.heap.size w w1 := hb0.trans (hb1.mono (by omega))
        clear hb1 hbel c0 c1 c2 c3 k0 k1
        go_wp2
        go_ret2
        refine ⟨h, _, rfl, by omega, H1.out, H2.out, ?_, hb2⟩
        simp [ordAt, hln]
      · have hd1 : decide ((h : Int) < (n : Int)) = false := by simp; omega
        clear hd
        go_wp2_with fail
        refine wp_region_kin (by kernel_rfl) (by kernel_rfl) ?_
        repeat (first | go_big_quiet_step (fail) | quiet_step (fail))
        refine wpQuiet_nil ?_
        intro w1 hw
        obtain ⟨p, hw⟩ := hw
        have hb1 := p.below
        rw [← hw] at hb1
        clear hw
        have hb2 : Below w.heap.size w w1 := hb0.trans (hb1.mono (by omega))
        go_wp2
        go_ret2
        refine ⟨h, _, rfl, by omega, H1.out, H2.out, ?_, hb2⟩
        simp [hln]
end Go.Proofs.Qxb6609485a
