import Derived.Test.Qxb6609544aDoorWlkT
namespace Go.Proofs.Qxb6609544aDoor
open Go.RowKit

theorem fields37 : Tryd.prog.underlying 37 = some (.struct (Tryd.prog.fieldsOf 37)) := by kernel_rfl
theorem held37 : Tryd.prog.stoodInHeld 37 = false := by kernel_rfl
theorem e35 (d : Nat) (m : Int) (W : World) : (Op.equalIn (d + 2) 35 (.agg (by4 m)) (.agg (by4 m))).run Tryd.prog W = .ok true W := by
  obtain ⟨i, hi, hs⟩ := Option.map_eq_some_iff.1 size5
  rw [show d + 2 = (d + 1) + 1 from rfl, run_equalIn_array W (d + 1) _ _ Tryd.underlying35 hi, cells5]
  rw [show List.range 4 = [0, 1, 2, 3] from rfl]
  simp only [Op.eqItems]
  go_simp
theorem q37 (x : Int × Int) (W : World) : (binOp .neq 37 (.agg #[.int .u8 (x.1 / 16777216), .int .u8 (x.1 / 65536 % 256), .int .u8 (x.1 / 256 % 256), .int .u8 (x.1 % 256), .int .u8 (x.2 / 16777216), .int .u8 (x.2 / 65536 % 256), .int .u8 (x.2 / 256 % 256), .int .u8 (x.2 % 256)]) (.agg #[.int .u8 (x.1 / 16777216), .int .u8 (x.1 / 65536 % 256), .int .u8 (x.1 / 256 % 256), .int .u8 (x.1 % 256), .int .u8 (x.2 / 16777216), .int .u8 (x.2 / 65536 % 256), .int .u8 (x.2 / 256 % 256), .int .u8 (x.2 % 256)])).run Tryd.prog W = .ok (.bool false) W := by
  have h1 : ∀ W, (Op.equalIn 9999 35 (.agg (by4 x.1)) (.agg (by4 x.1))).run Tryd.prog W = .ok true W := fun W => e35 9997 x.1 W
  have h2 : ∀ W, (Op.equalIn 9999 35 (.agg (by4 x.2)) (.agg (by4 x.2))).run Tryd.prog W = .ok true W := fun W => e35 9997 x.2 W
  rw [run_neq_struct, show (10000 : Nat) = 9999 + 1 from rfl, run_equalIn_agg W 9999 37 _ _ fields37 held37]
  simp only [Program.fieldsOf, Tryd.underlying37]
  go_simp
end Go.Proofs.Qxb6609544aDoor
