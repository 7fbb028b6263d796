import Derived.Test.Qxb6609544aDoorRng
namespace Go.Proofs.Qxb6609544aDoor
open Go.RowKit

/-- It answers a bool, and keeps all. -/
def Ans (w : World) (e : Ending) (w' : World) : Prop := ∃ b : Bool, e = .returned (.bool b) ∧ Bel w w'
theorem Ans.mk {w w' : World} (b : Bool) (h : Bel w w') : Ans w (.returned (.bool b)) w' := ⟨b, rfl, h⟩

set_option maxRecDepth 100000 in
set_option maxHeartbeats 2000000 in
theorem zzbytes (a b : Option Addr) (n cap m dap : Nat) (hn : (n : Int) ≤ 9223372036854775807) (hm : (m : Int) ≤ 9223372036854775807) (w : World) :
    Calls Tryd.prog 15 #[.slice a n cap, .slice b m dap] w fun e w' => Ans w e w' := by
  go_enter Tryd.func15, Tryd.ntmps15
  by_cases h1 : (1048576 : Int) < n
  · go_wp2_with fail
    go_ret
    exact Ans.mk _ (Bel.refl _)
  go_wp2_with fail
  go_loopw [6, 5] (fun i z wr => ∃ (k : Nat) (s : Int), k ≤ n ∧ i = .int .i64 k ∧ z = .int .i64 s ∧ (0 ≤ s ∧ s ≤ 1048576) ∧ w = wr) (fun i _ _ => n - (intOf i).toNat)
  case atStart => exact ⟨0, n, Nat.zero_le _, rfl, rfl, by omega, rfl⟩
  case round =>
    obtain ⟨k, s, hk, rfl, rfl, hs, rfl⟩ := hrel
    by_cases hlt : k < n
    · by_cases h2 : 1048576 < s + 4
      · go_wp2_with fail
        go_ret
        exact Ans.mk _ (Bel.refl _)
      · by_cases h3 : 1048576 < s + 4 + 4
        · go_wp2_with fail
          go_ret
          exact Ans.mk _ (Bel.refl _)
        · go_wp2_with fail
          go_roundw
          case rel => exact ⟨k + 1, s + 4 + 4, by omega, by go_num, by go_num, by omega, trivial⟩
          case measure => simp [intOf]; omega
    · by_cases h4 : (1048576 : Int) < m
      · go_wp2_with fail
        go_ret
        exact Ans.mk _ (Bel.refl _)
      by_cases h5 : (1048576 : Int) < s + m
      · go_wp2_with fail
        go_ret
        exact Ans.mk _ (Bel.refl _)
      go_wp2_with fail
      go_loopw [7, 5] (fun i z wr => ∃ (k : Nat) (s : Int), k ≤ m ∧ i = .int .i64 k ∧ z = .int .i64 s ∧ (0 ≤ s ∧ s ≤ 1048576) ∧ w = wr) (fun i _ _ => m - (intOf i).toNat)
      case atStart => exact ⟨0, s + m, Nat.zero_le _, rfl, rfl, by omega, rfl⟩
      case round =>
        obtain ⟨k, s, hk, rfl, rfl, hs, rfl⟩ := hrel
        by_cases hlt : k < m
        · by_cases h2 : 1048576 < s + 4
          · go_wp2_with fail
            go_ret
            exact Ans.mk _ (Bel.refl _)
          · by_cases h3 : 1048576 < s + 4 + 4
            · go_wp2_with fail
              go_ret
              exact Ans.mk _ (Bel.refl _)
            · go_wp2_with fail
              go_roundw
              case rel => exact ⟨k + 1, s + 4 + 4, by omega, by go_num, by go_num, by omega, trivial⟩
              case measure => simp [intOf]; omega
        · go_wp2_with fail
          go_ret
          exact Ans.mk _ (Bel.refl _)

/-- A slice of ranges that reads L. -/
def Rs (w : World) (a : Option Addr) (n : Nat) (L : List (Int × Int)) : Prop := L.length = n ∧ (n = 0 ∨ ∃ g off, a = some ⟨g, off, none⟩ ∧ Rngs w g off L)
theorem Rs.below {w w' : World} {a : Option Addr} {n : Nat} {L : List (Int × Int)} (h : Rs w a n L) (k : Below w.heap.size w w') : Rs w' a n L := by
  refine ⟨h.1, ?_⟩
  rcases h.2 with h | ⟨g, off, h1, h2⟩
  · exact Or.inl h
  · exact Or.inr ⟨g, off, h1, h2.below k⟩

set_option maxRecDepth 100000 in
set_option maxHeartbeats 2000000 in
theorem rangesOK (a : Option Addr) (n cap : Nat) (L : List (Int × Int)) (w : World) (hn : (n : Int) ≤ 1000000) (hr : Rs w a n L) (hx : ∀ x ∈ L, Okx x) :
    Calls Tryd.prog 8 #[.slice a n cap] w fun e w' => Ans w e w' := by
  have HR : Hid (Rs w a n L) := hr
  have HX : Hid (∀ x ∈ L, Okx x) := hx
  clear hr hx
  go_enter Tryd.func8, Tryd.ntmps8
  go_wp2_with fail
  go_loopw [3] (fun i wr => ∃ k : Nat, k ≤ n ∧ i = .int .i64 k ∧ Bel w wr) (fun i _ => n - (intOf i).toNat)
  case atStart => exact ⟨0, Nat.zero_le _, rfl, Bel.refl _⟩
  case round =>
    obtain ⟨k, hk, rfl, hb⟩ := hrel
    by_cases hlt : k < n
    · have hltI : (k : Int) < (n : Int) := by omega
      obtain ⟨hL, h0 | ⟨g, off, rfl, hrg⟩⟩ := HR.out
      · exfalso; omega
      obtain ⟨x, hx⟩ : ∃ x, L[k]'(by omega) = x := ⟨_, rfl⟩
      have hok : Okx x := hx ▸ HX.out _ (List.getElem_mem _)
      have CC : Hid (∀ V, Calls Tryd.prog 25 #[.agg (by4 x.1), .agg (by4 x.2)] V fun e w' => e = .returned (.int .i64 (cmpZ x.1 x.2)) ∧ Bel V w') := fun V => by
        have h := cmp4 _ _ _ _ _ _ _ _ V (by4_byt x.1 ⟨hok.1, hok.2.1⟩) (by4_byt x.2 ⟨hok.2.2.1, hok.2.2.2⟩)
        rw [num4_by, num4_by] at h
        exact h
      have a := fun p : Kin wr => (hrg.below (hb.trans p.bel).below).eight (i := k) (by omega) hx
      have a0 := fun p => (a p).1
      have a1 := fun p => (a p).2.1
      have a2 := fun p => (a p).2.2.1
      have a3 := fun p => (a p).2.2.2.1
      have a4 := fun p => (a p).2.2.2.2.1
      have a5 := fun p => (a p).2.2.2.2.2.1
      have a6 := fun p => (a p).2.2.2.2.2.2.1
      have a7 := fun p => (a p).2.2.2.2.2.2.2
      have hT0 : (0 : Int) ≤ (k : Int) := by omega
      have kne := kinNe wr
      clear a hx hok hrg hL
      go_wp2_with fail
      refine wp_region_kin (by kernel_rfl) (by kernel_rfl) ?_
      repeat (first | go_big_quiet_step ((go_at_call 25; exact kin_of (CC.out _))) | quiet_step (first | rfl | (go_at_call 25; exact kin_of (CC.out _))))
      refine wpQuiet_nil ?_
      intro W1 hw
      obtain ⟨kk, hw⟩ := hw
      have hbe := kk.bel
      rw [← hw] at hbe
      clear hw kk kne a0 a1 a2 a3 a4 a5 a6 a7
      by_cases hc : 0 < cmpZ x.1 x.2
      · go_wp2_with fail
        go_ret
        exact Ans.mk _ (hb.trans hbe)
      · go_wp2_with fail
        go_roundw
        case rel => exact ⟨k + 1, by omega, by go_num, hb.trans hbe⟩
        case measure => simp [intOf]; omega
    · have hltI : ¬ (k : Int) < (n : Int) := by omega
      go_wp2_with fail
      go_ret
      exact Ans.mk _ hb
end Go.Proofs.Qxb6609544aDoor
