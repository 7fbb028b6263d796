import Derived.Test.Qxb6609544aDoorBal
namespace Go.Proofs.Qxb6609544aDoor
open Go.RowKit
open Go.Deep (BT)

set_option maxRecDepth 100000 in
set_option maxHeartbeats 8000000 in
/-- Neither side is too heavy. -/
theorem balC (zp : Addr) (x : Int × Int) (l r : Tr) (w : World) (hz : Zed w zp) (hl : In zp w l) (hr : In zp w r) (hx : Okx x) (hs : siz l + siz r < 500000000)
    (h1 : ¬ 3 * (siz l + 1) < siz r + 1) (h2 : ¬ 3 * (siz r + 1) < siz l + 1) :
    Calls Tryd.prog 72 #[.pointer (pa l), entV zp x.1 x.2, .pointer (pa r)] w fun e w' => ∃ b, e = .returned (.pointer (some ⟨b, 0, none⟩)) ∧ In zp w' (.node b 0 x l r) ∧ Bel w w' := by
  have hW : Bel w (w.alloc (.cells #[.int .u64 0, .int .u64 (low x.1), .pointer (some zp), .int .u64 0, .int .u64 (low x.2), .pointer (some zp)] 49)) := (Bel.refl _).alloc _
  have HSL := Slot.new w #[.int .u64 0, .int .u64 (low x.1), .pointer (some zp), .int .u64 0, .int .u64 (low x.2), .pointer (some zp)] 49
  have C1 : Hid (∀ V, Bel w V → Calls Tryd.prog 79 #[.pointer (pa l)] V fun e w' => e = .returned (.int .i64 ((siz l : Int) + 1)) ∧ w' = V) := fun V hV => weight zp (pa l) (siz l) _ V (hl.bel hV).chd (by omega)
  have C2 : Hid (∀ V, Bel w V → Calls Tryd.prog 79 #[.pointer (pa r)] V fun e w' => e = .returned (.int .i64 ((siz r : Int) + 1)) ∧ w' = V) := fun V hV => weight zp (pa r) (siz r) _ V (hr.bel hV).chd (by omega)
  have CJ : Hid (∀ V, Bel w V → Calls Tryd.prog 53 #[.pointer (pa l), entV zp x.1 x.2, .pointer (pa r)] V fun e w' => ∃ b, e = .returned (.pointer (some ⟨b, 0, none⟩)) ∧ In zp w' (.node b 0 x l r) ∧ Bel V w') := fun V hV => join zp x l r V (hz.bel hV) (hl.bel hV) (hr.bel hV) hx (by omega)
  have i1 : decide ((3 : Int) * ((siz l : Int) + 1) < (siz r : Int) + 1) = false := by simp; omega
  have i2 : decide ((3 : Int) * ((siz r : Int) + 1) < (siz l : Int) + 1) = false := by simp; omega
  have z1 : (siz l : Int) < 500000000 := by omega
  have z2 : (siz r : Int) < 500000000 := by omega
  clear hz hl hr hx hs h1 h2
  go_enter Tryd.func72, Tryd.ntmps72
  go_wp2_with fail
  generalize (w.alloc (.cells #[.int .u64 0, .int .u64 (low x.1), .pointer (some zp), .int .u64 0, .int .u64 (low x.2), .pointer (some zp)] 49)) = W0 at *
  have e1 := HSL.cell
  refine (C1.out _ hW).mono ?_
  rintro e w1 ⟨rfl, rfl⟩
  go_wp2_with fail
  refine (C2.out _ hW).mono ?_
  rintro e w1 ⟨rfl, rfl⟩
  go_wp2_with fail
  refine (C2.out _ hW).mono ?_
  rintro e w1 ⟨rfl, rfl⟩
  go_wp2_with fail
  refine (C1.out _ hW).mono ?_
  rintro e w1 ⟨rfl, rfl⟩
  go_wp2_with fail
  refine (CJ.out _ hW).mono ?_
  rintro e w2 ⟨b, rfl, hin, hb⟩
  go_wp2_with fail
  go_ret
  exact ⟨b, rfl, hin, hW.trans hb⟩

theorem size_pos {t : Tr} (h : 0 < siz t) : ∃ b o x l r, t = .node b o x l r := by
  cases t with
  | nil => simp [siz] at h
  | node b o x l r => exact ⟨b, o, x, l, r, rfl⟩

/-- balance, whole: what was in balance before one entry came in is in balance again, and lists the same. -/
theorem balance (zp : Addr) (x : Int × Int) (l r : Tr) (w : World) (hz : Zed w zp) (hl : In zp w l) (hr : In zp w r) (hx : Okx x) (hs : siz l + siz r < 500000000)
    (bl : Bal l) (br : Bal r) (h1 : siz r + 1 ≤ 3 * (siz l + 1) + 1) (h2 : siz l + 1 ≤ 3 * (siz r + 1) + 1) :
    Calls Tryd.prog 72 #[.pointer (pa l), entV zp x.1 x.2, .pointer (pa r)] w fun e w' => ∃ t : Tr, e = .returned (.pointer (pa t)) ∧ In zp w' t ∧ Bal t ∧ lst t = lst l ++ x :: lst r ∧ Bel w w' := by
  by_cases c1 : 3 * (siz l + 1) < siz r + 1
  · obtain ⟨rb, o, y, p, q, rfl⟩ := size_pos (t := r) (by omega)
    obtain rfl : o = 0 := hr.1.1
    obtain ⟨a1, a2, bp, bq⟩ := br
    simp only [siz] at c1 hs h1 h2
    by_cases c2 : siz p + 1 < 2 * (siz q + 1)
    · refine (balR1 zp x y l p q rb w hz hl hr hx hs c1 c2).mono ?_
      rintro e w' ⟨b1, b3, rfl, hin, hb⟩
      refine ⟨_, rfl, hin, ?_, by simp [lst], hb⟩
      simp only [Bal, siz]
      exact ⟨by omega, by omega, ⟨by omega, by omega, bl, bp⟩, bq⟩
    · obtain ⟨ib, o, z, d, u, rfl⟩ := size_pos (t := p) (by omega)
      obtain rfl : o = 0 := hr.2.2.2.2.1.1.1
      obtain ⟨a3, a4, bd, bu⟩ := bp
      simp only [siz] at c1 c2 hs h1 h2 a1 a2
      refine (balR2 zp x y z l d u q rb ib w hz hl hr hx hs c1 c2).mono ?_
      rintro e w' ⟨b1, b2, b3, rfl, hin, hb⟩
      refine ⟨_, rfl, hin, ?_, by simp [lst], hb⟩
      simp only [Bal, siz]
      exact ⟨by omega, by omega, ⟨by omega, by omega, bl, bd⟩, ⟨by omega, by omega, bu, bq⟩⟩
  by_cases c1' : 3 * (siz r + 1) < siz l + 1
  · obtain ⟨rb, o, y, p, q, rfl⟩ := size_pos (t := l) (by omega)
    obtain rfl : o = 0 := hl.1.1
    obtain ⟨a1, a2, bp, bq⟩ := bl
    simp only [siz] at c1' hs h1 h2
    by_cases c2 : siz q + 1 < 2 * (siz p + 1)
    · refine (balL1 zp x y r p q rb w hz hr hl hx (by omega) c1' c2).mono ?_
      rintro e w' ⟨b1, b3, rfl, hin, hb⟩
      refine ⟨_, rfl, hin, ?_, by simp [lst], hb⟩
      simp only [Bal, siz]
      exact ⟨by omega, by omega, bp, by omega, by omega, bq, br⟩
    · obtain ⟨ib, o, z, d, u, rfl⟩ := size_pos (t := q) (by omega)
      obtain rfl : o = 0 := hl.2.2.2.2.2.1.1
      obtain ⟨a3, a4, bd, bu⟩ := bq
      simp only [siz] at c1' c2 hs h1 h2 a1 a2
      refine (balL2 zp x y z r d u p rb ib w hz hr hl hx (by omega) c1' c2).mono ?_
      rintro e w' ⟨b1, b2, b3, rfl, hin, hb⟩
      refine ⟨_, rfl, hin, ?_, by simp [lst], hb⟩
      simp only [Bal, siz]
      exact ⟨by omega, by omega, ⟨by omega, by omega, bp, bd⟩, ⟨by omega, by omega, bu, br⟩⟩
  · refine (balC zp x l r w hz hl hr hx hs c1 c1').mono ?_
    rintro e w' ⟨b, rfl, hin, hb⟩
    refine ⟨_, rfl, hin, ?_, by simp [lst], hb⟩
    simp only [Bal]
    exact ⟨by omega, by omega, bl, br⟩
end Go.Proofs.Qxb6609544aDoor
