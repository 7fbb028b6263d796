import Derived.Test.Qxb6609485aHead
namespace Go.Proofs.Qxb6609485a
open Go.RowKit
open Go.Lib (compareBytes)

/-- A key as a value. -/
abbrev keyV (s : ByteArray) : Value := .agg #[.int .u64 (head s : Nat), .string s]

set_option maxHeartbeats 400000 in
theorem cmp64 (x y : Nat) (w : World) :
    Calls Try.prog 30 #[.int .u64 x, .int .u64 y] w fun e w' => e = .returned (.int .i64 (if x < y then -1 else if y < x then 1 else 0)) ∧ w' = w := by
  by_cases h1 : x < y
  · rw [if_pos h1]
    go_enter Try.func30, Try.ntmps30
    go_wp2
    go_ret
    exact ⟨rfl, rfl⟩
  · rw [if_neg h1]
    by_cases h2 : y < x
    · rw [if_pos h2]
      go_enter Try.func30, Try.ntmps30
      go_wp2
      go_ret
      exact ⟨rfl, rfl⟩
    · rw [if_neg h2]
      go_enter Try.func30, Try.ntmps30
      go_wp2
      go_ret
      exact ⟨rfl, rfl⟩

set_option maxHeartbeats 400000 in
theorem keycmp (a b : ByteArray) (w : World) :
    Calls Try.prog 26 #[.agg #[.int .u64 (head a : Nat), .string a], .agg #[.int .u64 (head b : Nat), .string b]] w fun e w' => e = .returned (.int .i64 (compareBytes a.data.toList b.data.toList)) ∧ Below w.heap.size w w' := by
  have hl := head_lt a b
  have hg := head_gt a b
  generalize head a = x at *
  generalize head b = y at *
  by_cases hxy : x = y
  · subst hxy
    clear hl hg
    go_enter Try.func26, Try.ntmps26
    go_wp2_with (go_at_call 31; refine (Try.strings_Compare _ _ _).mono ?_; rintro e w' ⟨rfl, rfl⟩)
    go_ret
    exact ⟨rfl, ((Below.refl _ _).alloc (Nat.le_refl _) _).alloc (by simp) _⟩
  · have hv : compareBytes a.data.toList b.data.toList = if x < y then -1 else if y < x then 1 else 0 := by
      by_cases h1 : x < y
      · rw [if_pos h1]; exact hl h1
      · rw [if_neg h1, if_pos (by omega)]; exact hg (by omega)
    rw [hv]
    clear hv hl hg
    have hne : ((x : Int) != (y : Int)) = true := by rw [bne_iff_ne]; omega
    go_enter Try.func26, Try.ntmps26
    go_wp2_with (go_at_call 30; refine (cmp64 _ _ _).mono ?_; rintro e w' ⟨rfl, rfl⟩)
    all_goals
      go_ret
      exact ⟨rfl, ((Below.refl _ _).alloc (Nat.le_refl _) _).alloc (by simp) _⟩

/-- A document as a value: its key, its lines, and three cells that nothing here reads. -/
abbrev docV (s : ByteArray) (L : Value) : Value := .agg #[.int .u64 (head s : Nat), .string s, L, .slice none 0 0, .int .i64 0, .int .u64 0]
/-- A child as a value. -/
abbrev childV (p : Value) (m : Int) (s : ByteArray) : Value := .agg #[p, .int .i64 m, .int .u64 (head s : Nat), .string s]

set_option maxHeartbeats 400000 in
theorem doccmp (a : ByteArray) (L : Value) (b : ByteArray) (w : World) :
    Calls Try.prog 23 #[docV a L, keyV b] w fun e w' => e = .returned (.int .i64 (compareBytes a.data.toList b.data.toList)) ∧ Below w.heap.size w w' := by
  go_enter Try.func23, Try.ntmps23
  go_wp2_with (go_at_call 26; refine (keycmp a b _).mono ?_; rintro e w' ⟨rfl, hb⟩)
  go_ret
  exact ⟨rfl, (((Below.refl _ _).alloc (Nat.le_refl _) _).alloc (by simp) _).trans (hb.mono (by simp; omega))⟩

set_option maxHeartbeats 400000 in
theorem childcmp (p : Value) (m : Int) (a b : ByteArray) (w : World) :
    Calls Try.prog 33 #[childV p m a, keyV b] w fun e w' => e = .returned (.int .i64 (compareBytes a.data.toList b.data.toList)) ∧ Below w.heap.size w w' := by
  go_enter Try.func33, Try.ntmps33
  go_wp2_with (go_at_call 26; refine (keycmp a b _).mono ?_; rintro e w' ⟨rfl, hb⟩)
  go_ret
  exact ⟨rfl, (((Below.refl _ _).alloc (Nat.le_refl _) _).alloc (by simp) _).trans (hb.mono (by simp; omega))⟩
end Go.Proofs.Qxb6609485a
