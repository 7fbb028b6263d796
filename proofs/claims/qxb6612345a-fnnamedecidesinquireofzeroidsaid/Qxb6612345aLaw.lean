import Derived.Test.Qxb6612345aAsk
namespace Go.Proofs.Qxb6612345a
open Go.RowKit Go.MuLone

set_option maxHeartbeats 800000 in
/-- The law's own bound on the input. -/
theorem zzbytes (s : ByteArray) (w : World) : Calls Try.prog 4 #[.string s] w fun e w' => e = .returned (.bool (decide ((s.size : Int) ≤ 1048576))) ∧ w' = w := by
  by_cases h : (s.size : Int) ≤ 1048576
  · have h1 : ¬ (1048576 : Int) < (s.size : Int) := by omega
    go_enter Try.func4, Try.ntmps4
    go_wp2_with fail
    go_ret
    exact ⟨rfl, rfl⟩
  · have h1 : (1048576 : Int) < (s.size : Int) := by omega
    go_enter Try.func4, Try.ntmps4
    go_wp2_with fail
    go_ret
    exact ⟨by simp; omega, rfl⟩

set_option maxRecDepth 100000 in
set_option maxHeartbeats 1600000 in
theorem law (s : ByteArray) (w : World) : Calls Try.prog 3 #[.string s] w fun e w' => e = .returned (.bool true) ∧ Below w.heap.size w w' := by
  by_cases h : (s.size : Int) ≤ 1048576
  · have h1 : ¬ (1048576 : Int) < (s.size : Int) := by omega
    go_enter Try.func3, Try.ntmps3
    go_wp2_with (first
      | (go_at_call 4; refine (zzbytes s _).mono ?_; rintro e w' ⟨rfl, rfl⟩)
      | (go_at_call 5; refine (new_any s _).mono ?_; rintro e w' ⟨b, m, rfl, hf, hle, hm, hb⟩)
      | (go_at_call 6; refine (inquire _ _ s _ hf hm).mono ?_; rintro e w'' ⟨rfl, hnm, hb2⟩)
      | (go_at_call 7; refine (name_any _ s _ hnm).mono ?_; rintro e w3 ⟨rfl, rfl⟩))
    go_ret
    exact ⟨rfl, hb.trans (hb2.mono hle)⟩
  · have h1 : (1048576 : Int) < (s.size : Int) := by omega
    have h2 : decide ((s.size : Int) ≤ 1048576) = false := by simp; omega
    have hz := zzbytes s w
    rw [h2] at hz
    go_enter Try.func3, Try.ntmps3
    go_wp2_with (go_at_call 4; refine hz.mono ?_; rintro e w' ⟨rfl, rfl⟩)
    go_ret
    exact ⟨rfl, Below.refl _ _⟩
end Go.Proofs.Qxb6612345a
