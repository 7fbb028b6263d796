import Derived.Test.Qxb6609552aBase
namespace Go.Proofs.Qxb6609552a
open Go.RowKit

set_option maxRecDepth 100000 in
set_option maxHeartbeats 1000000 in
theorem bytes (c0 c2 c3 c6 : Int) (gk gen : Array Value) (a : Option Addr) (n cap : Nat) (hn : n ≤ maxLen) (w : World) :
    Calls Try.prog 9 #[.int .i64 c0, .agg gk, .int .i64 c2, .int .i64 c3, .agg gen, .slice a n cap, .int .i64 c6] w fun e w' => ∃ b : Bool, e = .returned (.bool b) ∧ (b = true → n ≤ 1048576) ∧ Below w.heap.size w w' := by
  have hnm : (n : Int) ≤ 9223372036854775807 := by simp [maxLen] at hn; omega
  clear hn
  have hb0 : Below w.heap.size w ((w.alloc (.cells gk 27)).alloc (.cells gen 28)) := ((Below.refl _ w).alloc (Nat.le_refl _) _).alloc (by simp) _
  go_enter Try.func9, Try.ntmps9
  by_cases h1 : (1048576 : Int) < n
  · go_wp2_with fail
    go_ret
    exact ⟨_, rfl, by simp, hb0⟩
  go_wp2_with fail
  go_loopw [16, 15] (fun i z wr => ∃ (k : Nat) (s : Int), k ≤ n ∧ i = .int .i64 k ∧ z = .int .i64 s ∧ (0 ≤ s ∧ s ≤ 1048576) ∧ wr = (w.alloc (.cells gk 27)).alloc (.cells gen 28)) (fun i _ _ => n - (intOf i).toNat)
  case atStart => exact ⟨0, n, Nat.zero_le _, rfl, rfl, by omega, rfl⟩
  case round =>
    obtain ⟨k, s, hk, rfl, rfl, hs, rfl⟩ := hrel
    by_cases hlt : k < n
    · by_cases h2 : 1048576 < s + 33
      · go_wp2_with fail
        go_ret
        exact ⟨_, rfl, by simp, hb0⟩
      · go_wp2_with fail
        go_roundw
        case rel => exact ⟨k + 1, s + 33, by omega, by go_num, by go_num, by omega, trivial⟩
        case measure => simp [intOf]; omega
    · go_wp2_with fail
      go_ret
      exact ⟨_, rfl, fun _ => by omega, hb0⟩
end Go.Proofs.Qxb6609552a
