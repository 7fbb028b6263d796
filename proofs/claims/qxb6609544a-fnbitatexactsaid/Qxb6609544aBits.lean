import Derived.Test.Qxb6609544aRows
import Derived.WalkKit
import Derived.WalkSpells
import Derived.WalkLawsBesides
namespace Go.Proofs.Qxb6609544a
open Go.RowKit

theorem and_one_u8_fin : ∀ n : Fin 256, bits BinOp.and IntKind.u8 (n.val : Int) 1 = (n.val : Int) % 2 := by decide +kernel
theorem and_one_u8 (x : Int) (h0 : 0 ≤ x) (h1 : x ≤ 255) : bits BinOp.and IntKind.u8 x 1 = x % 2 := by
  have h := and_one_u8_fin ⟨x.toNat, by omega⟩
  simp only [Int.toNat_of_nonneg h0] at h
  exact h
theorem ret_int {k : IntKind} {a b : Int} (h : a = b) : Ending.returned (.int k a) = .returned (.int k b) := by rw [h]
theorem shifted (z : Int) (m : Nat) (hz : 0 ≤ z) (hz' : z ≤ 255) : 0 ≤ z / 2 ^ m ∧ z / 2 ^ m ≤ 255 := by
  have hp : (0 : Int) < 2 ^ m := Int.pow_pos (by decide)
  exact ⟨Int.ediv_nonneg hz (Int.le_of_lt hp), Int.le_trans (Int.ediv_le_self _ hz) hz'⟩

/-- bitAt: the bit. -/
def bitOf (z : Int) (j : Nat) : Int := z / 2 ^ (7 - j) % 2
theorem bitOf_01 (z : Int) (j : Nat) : 0 ≤ bitOf z j ∧ bitOf z j ≤ 1 := by unfold bitOf; omega

set_option maxHeartbeats 400000 in
theorem bitat (b off n cap i : Nat) (z : Int) (w : World) (hn : n ≤ 1048576) (hi : i / 8 < n) (hc : w.cell? ⟨b, off + i / 8, none⟩ = some (.int .u8 z)) (hz : 0 ≤ z) (hz' : z ≤ 255) :
    Calls Try.prog 8 #[.slice (some ⟨b, off, none⟩) n cap, .int .i64 i] w fun e w' => e = .returned (.int .u8 (bitOf z (i % 8))) ∧ w' = w := by
  have hs := shifted z (7 - i % 8) hz hz'
  go_enter Try.func8, Try.ntmps8
  go_wp2
  go_ret
  exact ⟨ret_int (and_one_u8 _ hs.1 hs.2), rfl⟩

set_option maxHeartbeats 400000 in
theorem zzbitat (b off n cap i : Nat) (x z : Int) (w : World) (hx : x = i) (hn : n ≤ 1048576) (hi : i / 8 < n) (hc : w.cell? ⟨b, off + i / 8, none⟩ = some (.int .u8 z)) (hz : 0 ≤ z) (hz' : z ≤ 255) :
    Calls Try.prog 6 #[.slice (some ⟨b, off, none⟩) n cap, .int .i64 x] w fun e w' => e = .returned (.int .u8 (bitOf z (i % 8))) ∧ w' = w := by
  subst hx
  go_enter Try.func6, Try.ntmps6
  go_wp2_with (go_at_call 8; refine (bitat _ _ _ _ _ _ _ hn hi hc hz hz').mono ?_; rintro e w' ⟨rfl, rfl⟩)
  go_ret
  exact ⟨rfl, rfl⟩

end Go.Proofs.Qxb6609544a
