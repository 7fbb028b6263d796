import Derived.Test.Qxb6609544aDoorWlkN
namespace Go.Proofs.Qxb6609544aDoor
open Go.RowKit
open Go.Deep (BT)

/-- walk, whole. -/
theorem walkT (zp : Addr) (B s : Nat) (h2 : 2 ≤ B) (hsB : B ≤ s) : ∀ (t : Tr) (w : World) (v : Value) (n : Nat) (A : List (Int × Int)), Zed w zp → Und B t → In zp w t → Bal t → Slot w s #[v] → w.ownsRow B 37 8 v n (flatR A) → n + siz t ≤ 1000000 → B ≤ w.heap.size →
    Calls Tryd.prog 27 #[.pointer (pa t), .pointer (some ⟨s, 0, none⟩)] w fun e w' => e = .returned (.tuple #[.int .i64 (siz t), .agg (by4 (rz t)), .bool true]) ∧ Wkd B s n A v t w w' := by
  intro t
  induction t with
  | nil =>
    intro w v n A _ _ _ _ hs ho _ _
    exact walk_nil B s n A v w hs ho
  | node b o x l r ihl ihr =>
    intro w v n A hz hu hi hb hs ho hn hB
    obtain rfl : o = 0 := hi.1.1
    exact walk_node zp B s h2 hsB b x l r
      (fun w v n A z i sl ow nn bb => ihl w v n A z hu.2.1 i hb.2.2.1 sl ow nn bb)
      (fun w v n A z i sl ow nn bb => ihr w v n A z hu.2.2 i hb.2.2.2 sl ow nn bb)
      w v n A hz hu hi hb hs ho hn hB
end Go.Proofs.Qxb6609544aDoor
