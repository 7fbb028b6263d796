import Derived.Test.Qxb6609544aDoorTree
namespace Go.Proofs.Qxb6609544aDoor
open Go.RowKit
open Go.Deep (BT)

theorem wrapI {a : Int} (h1 : -9223372036854775808 ≤ a) (h2 : a < 9223372036854775808) : IntKind.i64.wrap a = a := by simp [IntKind.wrap, IntKind.bits, IntKind.signed]; omega
theorem Chd.bel {zp : Addr} {w w' : World} {p : Option Addr} {n : Nat} {m : Int} (h : Chd zp w p n m) (k : Bel w w') : Chd zp w' p n m := by
  rcases h with h | ⟨b, y, lp, rp, h, hlt, hc⟩
  · exact Or.inl h
  · exact Or.inr ⟨b, y, lp, rp, h, Nat.lt_of_lt_of_le hlt k.size, fun j => (k.below.cell (p := ⟨b, j, none⟩) hlt).trans (hc j)⟩

set_option maxHeartbeats 400000 in
theorem weight (zp : Addr) (p : Option Addr) (n : Nat) (m : Int) (w : World) (hc : Chd zp w p n m) (hs : n < 1000000000) : Calls Tryd.prog 79 #[.pointer p] w fun e w' => e = .returned (.int .i64 ((n : Int) + 1)) ∧ w' = w := by
  rcases hc with ⟨rfl, rfl, _⟩ | ⟨b, y, lq, rq, rfl, hlt, hcell⟩
  · go_enter Tryd.func79, Tryd.ntmps79
    go_wp2_with fail
    go_ret
    exact ⟨rfl, rfl⟩
  · go_enter Tryd.func79, Tryd.ntmps79
    go_wp2_with fail
    go_ret
    exact ⟨by simp, rfl⟩
theorem weightB (zp : Addr) (p : Option Addr) (n : Nat) (m : Int) (w : World) (hc : Chd zp w p n m) (hs : n < 1000000000) : Calls Tryd.prog 79 #[.pointer p] w fun e w' => e = .returned (.int .i64 ((n : Int) + 1)) ∧ Bel w w' :=
  (weight zp p n m w hc hs).mono fun _ _ ⟨he, hw⟩ => ⟨he, hw ▸ Bel.refl _⟩

theorem weightT (zp : Addr) (t : Tr) (w : World) (h : In zp w t) (hs : siz t < 1000000000) : Calls Tryd.prog 79 #[.pointer (pa t)] w fun e w' => e = .returned (.int .i64 ((siz t : Int) + 1)) ∧ Bel w w' := weightB zp (pa t) (siz t) _ w h.chd hs

set_option maxRecDepth 100000 in
set_option maxHeartbeats 8000000 in
/-- The right side is too heavy by one; one turn. -/
theorem balR1 (zp : Addr) (x y : Int × Int) (l p q : Tr) (hb : Nat) (w : World) (hz : Zed w zp) (hl : In zp w l) (hr : In zp w (.node hb 0 y p q)) (hx : Okx x) (hs : siz l + (siz p + siz q + 1) < 500000000)
    (h1 : 3 * (siz l + 1) < siz p + siz q + 1 + 1) (h2 : siz p + 1 < 2 * (siz q + 1)) :
    Calls Tryd.prog 72 #[.pointer (pa l), entV zp x.1 x.2, .pointer (some ⟨hb, 0, none⟩)] w fun e w' => ∃ b1 b3, e = .returned (.pointer (some ⟨b3, 0, none⟩)) ∧ In zp w' (.node b3 0 y (.node b1 0 x l p) q) ∧ Bel w w' := by
  have hW : Bel w (w.alloc (.cells #[.int .u64 0, .int .u64 (low x.1), .pointer (some zp), .int .u64 0, .int .u64 (low x.2), .pointer (some zp)] 49)) := (Bel.refl _).alloc _
  have HSL : Hid (Slot (w.alloc (.cells #[.int .u64 0, .int .u64 (low x.1), .pointer (some zp), .int .u64 0, .int .u64 (low x.2), .pointer (some zp)] 49)) w.heap.size #[.int .u64 0, .int .u64 (low x.1), .pointer (some zp), .int .u64 0, .int .u64 (low x.2), .pointer (some zp)]) := Slot.new w #[.int .u64 0, .int .u64 (low x.1), .pointer (some zp), .int .u64 0, .int .u64 (low x.2), .pointer (some zp)] 49
  have HZ : Hid (∀ V, Bel w V → Zed V zp) := fun V hV => hz.bel hV
  have HLI : Hid (∀ V, Bel w V → In zp V l) := fun V hV => hl.bel hV
  have HRI : Hid (∀ V, Bel w V → In zp V (.node hb 0 y p q)) := fun V hV => hr.bel hV
  have HP : Hid (∀ V, Bel w V → In zp V p) := fun V hV => hr.2.2.2.2.1.bel hV
  have HQ : Hid (∀ V, Bel w V → In zp V q) := fun V hV => hr.2.2.2.2.2.bel hV
  have HX : Hid (Okx x) := hx
  have HY : Hid (Okx y) := hr.2.2.2.1
  have HS : Hid (siz l + (siz p + siz q + 1) < 500000000) := hs
  have i1 : (3 : Int) * ((siz l : Int) + 1) < (siz p : Int) + (siz q : Int) + 1 + 1 := by omega
  have i2 : (siz p : Int) + 1 < 2 * ((siz q : Int) + 1) := by omega
  have z1 : (siz l : Int) < 500000000 := by omega
  have z2 : (siz p : Int) < 500000000 := by omega
  have z3 : (siz q : Int) < 500000000 := by omega
  have HC : Hid (∀ V, Bel w V → ∀ j, V.cell? ⟨hb, j, none⟩ = (ndC zp y (pa p) (pa q) (siz p + siz q + 1 : Nat) (mx (mx y.2 (rch p)) (rch q)))[j]?) := fun V hV => (hr.bel hV).2.2.1
  have C1 : Hid (∀ V, Bel w V → Calls Tryd.prog 79 #[.pointer (pa l)] V fun e w' => e = .returned (.int .i64 ((siz l : Int) + 1)) ∧ w' = V) := fun V hV => weight zp (pa l) (siz l) _ V (HLI.out V hV).chd (by have := HS.out; omega)
  have C2 : Hid (∀ V, Bel w V → Calls Tryd.prog 79 #[.pointer (some ⟨hb, 0, none⟩)] V fun e w' => e = .returned (.int .i64 ((siz p : Int) + (siz q : Int) + 1 + 1)) ∧ w' = V) := fun V hV => by
    have h := weight zp (some ⟨hb, 0, none⟩) (siz p + siz q + 1) _ V (HRI.out V hV).chd (by have := HS.out; omega)
    simpa using h
  have C3 : Hid (∀ V, Bel w V → Calls Tryd.prog 79 #[.pointer (pa p)] V fun e w' => e = .returned (.int .i64 ((siz p : Int) + 1)) ∧ Bel V w') := fun V hV => by
    have h := weightB zp (pa p) (siz p) _ V (HP.out V hV).chd (by have := HS.out; omega)
    simpa using h
  have C4 : Hid (∀ V, Bel w V → Calls Tryd.prog 79 #[.pointer (pa q)] V fun e w' => e = .returned (.int .i64 ((siz q : Int) + 1)) ∧ Bel V w') := fun V hV => by
    have h := weightB zp (pa q) (siz q) _ V (HQ.out V hV).chd (by have := HS.out; omega)
    simpa using h
  clear hz hl hr hx hs h1 h2
  go_enter Tryd.func72, Tryd.ntmps72
  go_wp2_with fail
  generalize (w.alloc (.cells #[.int .u64 0, .int .u64 (low x.1), .pointer (some zp), .int .u64 0, .int .u64 (low x.2), .pointer (some zp)] 49)) = W0 at *
  refine (C1.out _ hW).mono ?_
  rintro e w1 ⟨rfl, rfl⟩
  go_wp2_with fail
  refine (C2.out _ hW).mono ?_
  rintro e w1 ⟨rfl, rfl⟩
  go_wp2_with fail
  have wq : IntKind.i64.wrap (2 * ((siz q : Int) + 1)) = 2 * ((siz q : Int) + 1) := wrapI (by omega) (by omega)
  have kne := kinNe w1
  have n1 : ∀ kk : Kin w1, ∀ j, kk.at'.cell? ⟨hb, j, none⟩ = (ndC zp y (pa p) (pa q) (siz p + siz q + 1 : Nat) (mx (mx y.2 (rch p)) (rch q)))[j]? := fun kk => HC.out _ (hW.trans kk.bel)
  have KB : Hid (∀ kk : Kin w1, Bel w kk.at') := fun kk => hW.trans kk.bel
  refine wp_region_kin (by kernel_rfl) (by kernel_rfl) ?_
  iterate 4 (quiet_step (rfl))
  quiet_step ((go_at_call 79; exact kin_of (C3.out _ (KB.out _))))
  iterate 4 (quiet_step (rfl))
  quiet_step ((go_at_call 79; exact kin_of (C4.out _ (KB.out _))))
  iterate 2 (quiet_step (rfl))
  refine wpQuiet_nil ?_
  intro W1 hw
  obtain ⟨kk, hw⟩ := hw
  have hbe := kk.bel
  rw [← hw] at hbe
  have hW1 : Bel w W1 := hW.trans hbe
  have HS1 := HSL.out.bel hbe
  clear hw kk n1 KB kne hbe hW HSL wq
  go_wp2_with fail
  have n1 : ∀ V, Bel W1 V → ∀ j, V.cell? ⟨hb, j, none⟩ = (ndC zp y (pa p) (pa q) (siz p + siz q + 1 : Nat) (mx (mx y.2 (rch p)) (rch q)))[j]? := fun V hV => HC.out _ (hW1.trans hV)
  have e1 : ∀ V, Bel W1 V → ∀ j, V.cell? ⟨w.heap.size, j, none⟩ = #[Value.int .u64 0, .int .u64 (low x.1), .pointer (some zp), .int .u64 0, .int .u64 (low x.2), .pointer (some zp)][j]? := fun V hV => (HS1.bel hV).cell
  go_region_held3 (fun w' => Bel W1 w') (first | assumption | exact (Bel.refl _).drew) (first | (have := hb1; go_at_call 53; refine (join zp y (.node _ 0 x l p) q _ (HZ.out _ (hW1.trans (by assumption))) (by assumption) (by first | exact HLI.out _ (hW1.trans (by assumption)) | exact HP.out _ (hW1.trans (by assumption)) | exact HQ.out _ (hW1.trans (by assumption))) HY.out (by have := HS.out; simp only [siz]; omega)).mono ?_; rintro e3 w3 ⟨b3, rfl, hin3, hb3⟩; have hB3 : Bel W1 w3 := Bel.trans (by assumption) hb3) | (go_at_call 53; refine (join zp _ _ _ _ (HZ.out _ (hW1.trans (by assumption))) (by first | exact HLI.out _ (hW1.trans (by assumption)) | exact HP.out _ (hW1.trans (by assumption)) | exact HQ.out _ (hW1.trans (by assumption))) (by first | exact HLI.out _ (hW1.trans (by assumption)) | exact HP.out _ (hW1.trans (by assumption)) | exact HQ.out _ (hW1.trans (by assumption))) (by first | exact HX.out | exact HY.out) (by have := HS.out; omega)).mono ?_; rintro e1 w1 ⟨b1, rfl, hin1, hb1⟩; have hB1 : Bel W1 w1 := Bel.trans (by assumption) hb1))
  all_goals
    go_wp2
    go_ret
    exact ⟨_, _, rfl, hin3, hW1.trans hB3⟩

set_option maxRecDepth 100000 in
set_option maxHeartbeats 8000000 in
/-- The left side is too heavy by one; one turn. -/
theorem balL1 (zp : Addr) (x y : Int × Int) (l p q : Tr) (hb : Nat) (w : World) (hz : Zed w zp) (hl : In zp w l) (hr : In zp w (.node hb 0 y p q)) (hx : Okx x) (hs : siz l + (siz p + siz q + 1) < 500000000)
    (h1 : 3 * (siz l + 1) < siz p + siz q + 1 + 1) (h2 : siz q + 1 < 2 * (siz p + 1)) :
    Calls Tryd.prog 72 #[.pointer (some ⟨hb, 0, none⟩), entV zp x.1 x.2, .pointer (pa l)] w fun e w' => ∃ b1 b3, e = .returned (.pointer (some ⟨b3, 0, none⟩)) ∧ In zp w' (.node b3 0 y p (.node b1 0 x q l)) ∧ Bel w w' := by
  have hW : Bel w (w.alloc (.cells #[.int .u64 0, .int .u64 (low x.1), .pointer (some zp), .int .u64 0, .int .u64 (low x.2), .pointer (some zp)] 49)) := (Bel.refl _).alloc _
  have HSL : Hid (Slot (w.alloc (.cells #[.int .u64 0, .int .u64 (low x.1), .pointer (some zp), .int .u64 0, .int .u64 (low x.2), .pointer (some zp)] 49)) w.heap.size #[.int .u64 0, .int .u64 (low x.1), .pointer (some zp), .int .u64 0, .int .u64 (low x.2), .pointer (some zp)]) := Slot.new w #[.int .u64 0, .int .u64 (low x.1), .pointer (some zp), .int .u64 0, .int .u64 (low x.2), .pointer (some zp)] 49
  have HZ : Hid (∀ V, Bel w V → Zed V zp) := fun V hV => hz.bel hV
  have HLI : Hid (∀ V, Bel w V → In zp V l) := fun V hV => hl.bel hV
  have HRI : Hid (∀ V, Bel w V → In zp V (.node hb 0 y p q)) := fun V hV => hr.bel hV
  have HP : Hid (∀ V, Bel w V → In zp V p) := fun V hV => hr.2.2.2.2.1.bel hV
  have HQ : Hid (∀ V, Bel w V → In zp V q) := fun V hV => hr.2.2.2.2.2.bel hV
  have HX : Hid (Okx x) := hx
  have HY : Hid (Okx y) := hr.2.2.2.1
  have HS : Hid (siz l + (siz p + siz q + 1) < 500000000) := hs
  have i1 : (3 : Int) * ((siz l : Int) + 1) < (siz p : Int) + (siz q : Int) + 1 + 1 := by omega
  have i2 : (siz q : Int) + 1 < 2 * ((siz p : Int) + 1) := by omega
  have i0 : decide ((3 : Int) * ((siz p : Int) + (siz q : Int) + 1 + 1) < (siz l : Int) + 1) = false := by simp; omega
  have z1 : (siz l : Int) < 500000000 := by omega
  have z2 : (siz p : Int) < 500000000 := by omega
  have z3 : (siz q : Int) < 500000000 := by omega
  have HC : Hid (∀ V, Bel w V → ∀ j, V.cell? ⟨hb, j, none⟩ = (ndC zp y (pa p) (pa q) (siz p + siz q + 1 : Nat) (mx (mx y.2 (rch p)) (rch q)))[j]?) := fun V hV => (hr.bel hV).2.2.1
  have C1 : Hid (∀ V, Bel w V → Calls Tryd.prog 79 #[.pointer (pa l)] V fun e w' => e = .returned (.int .i64 ((siz l : Int) + 1)) ∧ w' = V) := fun V hV => weight zp (pa l) (siz l) _ V (HLI.out V hV).chd (by have := HS.out; omega)
  have C2 : Hid (∀ V, Bel w V → Calls Tryd.prog 79 #[.pointer (some ⟨hb, 0, none⟩)] V fun e w' => e = .returned (.int .i64 ((siz p : Int) + (siz q : Int) + 1 + 1)) ∧ w' = V) := fun V hV => by
    have h := weight zp (some ⟨hb, 0, none⟩) (siz p + siz q + 1) _ V (HRI.out V hV).chd (by have := HS.out; omega)
    simpa using h
  have C3 : Hid (∀ V, Bel w V → Calls Tryd.prog 79 #[.pointer (pa p)] V fun e w' => e = .returned (.int .i64 ((siz p : Int) + 1)) ∧ Bel V w') := fun V hV => by
    have h := weightB zp (pa p) (siz p) _ V (HP.out V hV).chd (by have := HS.out; omega)
    simpa using h
  have C4 : Hid (∀ V, Bel w V → Calls Tryd.prog 79 #[.pointer (pa q)] V fun e w' => e = .returned (.int .i64 ((siz q : Int) + 1)) ∧ Bel V w') := fun V hV => by
    have h := weightB zp (pa q) (siz q) _ V (HQ.out V hV).chd (by have := HS.out; omega)
    simpa using h
  clear hz hl hr hx hs h1 h2
  go_enter Tryd.func72, Tryd.ntmps72
  go_wp2_with fail
  generalize (w.alloc (.cells #[.int .u64 0, .int .u64 (low x.1), .pointer (some zp), .int .u64 0, .int .u64 (low x.2), .pointer (some zp)] 49)) = W0 at *
  refine (C2.out _ hW).mono ?_
  rintro e w1 ⟨rfl, rfl⟩
  go_wp2_with fail
  refine (C1.out _ hW).mono ?_
  rintro e w1 ⟨rfl, rfl⟩
  go_wp2_with fail
  refine (C1.out _ hW).mono ?_
  rintro e w1 ⟨rfl, rfl⟩
  go_wp2_with fail
  refine (C2.out _ hW).mono ?_
  rintro e w1 ⟨rfl, rfl⟩
  go_wp2_with fail
  have wq : IntKind.i64.wrap (2 * ((siz p : Int) + 1)) = 2 * ((siz p : Int) + 1) := wrapI (by omega) (by omega)
  have kne := kinNe w1
  have n1 : ∀ kk : Kin w1, ∀ j, kk.at'.cell? ⟨hb, j, none⟩ = (ndC zp y (pa p) (pa q) (siz p + siz q + 1 : Nat) (mx (mx y.2 (rch p)) (rch q)))[j]? := fun kk => HC.out _ (hW.trans kk.bel)
  have KB : Hid (∀ kk : Kin w1, Bel w kk.at') := fun kk => hW.trans kk.bel
  refine wp_region_kin (by kernel_rfl) (by kernel_rfl) ?_
  iterate 4 (quiet_step (rfl))
  quiet_step ((go_at_call 79; exact kin_of (C4.out _ (KB.out _))))
  iterate 4 (quiet_step (rfl))
  quiet_step ((go_at_call 79; exact kin_of (C3.out _ (KB.out _))))
  iterate 2 (quiet_step (rfl))
  refine wpQuiet_nil ?_
  intro W1 hw
  obtain ⟨kk, hw⟩ := hw
  have hbe := kk.bel
  rw [← hw] at hbe
  have hW1 : Bel w W1 := hW.trans hbe
  have HS1 := HSL.out.bel hbe
  clear hw kk n1 KB kne hbe hW HSL wq
  go_wp2_with fail
  have n1 : ∀ V, Bel W1 V → ∀ j, V.cell? ⟨hb, j, none⟩ = (ndC zp y (pa p) (pa q) (siz p + siz q + 1 : Nat) (mx (mx y.2 (rch p)) (rch q)))[j]? := fun V hV => HC.out _ (hW1.trans hV)
  have e1 : ∀ V, Bel W1 V → ∀ j, V.cell? ⟨w.heap.size, j, none⟩ = #[Value.int .u64 0, .int .u64 (low x.1), .pointer (some zp), .int .u64 0, .int .u64 (low x.2), .pointer (some zp)][j]? := fun V hV => (HS1.bel hV).cell
  go_region_held3 (fun w' => Bel W1 w') (first | assumption | exact (Bel.refl _).drew) (first | (have := hb1; go_at_call 53; refine (join zp y p (.node _ 0 x q l) _ (HZ.out _ (hW1.trans (by assumption))) (by first | exact HLI.out _ (hW1.trans (by assumption)) | exact HP.out _ (hW1.trans (by assumption)) | exact HQ.out _ (hW1.trans (by assumption))) (by assumption) HY.out (by have := HS.out; simp only [siz]; omega)).mono ?_; rintro e3 w3 ⟨b3, rfl, hin3, hb3⟩; have hB3 : Bel W1 w3 := Bel.trans (by assumption) hb3) | (go_at_call 53; refine (join zp _ _ _ _ (HZ.out _ (hW1.trans (by assumption))) (by first | exact HLI.out _ (hW1.trans (by assumption)) | exact HP.out _ (hW1.trans (by assumption)) | exact HQ.out _ (hW1.trans (by assumption))) (by first | exact HLI.out _ (hW1.trans (by assumption)) | exact HP.out _ (hW1.trans (by assumption)) | exact HQ.out _ (hW1.trans (by assumption))) (by first | exact HX.out | exact HY.out) (by have := HS.out; omega)).mono ?_; rintro e1 w1 ⟨b1, rfl, hin1, hb1⟩; have hB1 : Bel W1 w1 := Bel.trans (by assumption) hb1))
  all_goals
    go_wp2
    go_ret
    exact ⟨_, _, rfl, hin3, hW1.trans hB3⟩

set_option maxRecDepth 100000 in
set_option maxHeartbeats 8000000 in
/-- The right side is too heavy by one; two turns. -/
theorem balR2 (zp : Addr) (x y z : Int × Int) (l d u q : Tr) (hb ib : Nat) (w : World) (hz : Zed w zp) (hl : In zp w l) (hr : In zp w (.node hb 0 y (.node ib 0 z d u) q)) (hx : Okx x) (hs : siz l + ((siz d + siz u + 1) + siz q + 1) < 500000000)
    (h1 : 3 * (siz l + 1) < (siz d + siz u + 1) + siz q + 1 + 1) (h2 : ¬ (siz d + siz u + 1) + 1 < 2 * (siz q + 1)) :
    Calls Tryd.prog 72 #[.pointer (pa l), entV zp x.1 x.2, .pointer (some ⟨hb, 0, none⟩)] w fun e w' => ∃ b1 b2 b3, e = .returned (.pointer (some ⟨b3, 0, none⟩)) ∧ In zp w' (.node b3 0 z (.node b1 0 x l d) (.node b2 0 y u q)) ∧ Bel w w' := by
  have hW : Bel w (w.alloc (.cells #[.int .u64 0, .int .u64 (low x.1), .pointer (some zp), .int .u64 0, .int .u64 (low x.2), .pointer (some zp)] 49)) := (Bel.refl _).alloc _
  have HSL : Hid (Slot (w.alloc (.cells #[.int .u64 0, .int .u64 (low x.1), .pointer (some zp), .int .u64 0, .int .u64 (low x.2), .pointer (some zp)] 49)) w.heap.size #[.int .u64 0, .int .u64 (low x.1), .pointer (some zp), .int .u64 0, .int .u64 (low x.2), .pointer (some zp)]) := Slot.new w #[.int .u64 0, .int .u64 (low x.1), .pointer (some zp), .int .u64 0, .int .u64 (low x.2), .pointer (some zp)] 49
  have HZ : Hid (∀ V, Bel w V → Zed V zp) := fun V hV => hz.bel hV
  have HLI : Hid (∀ V, Bel w V → In zp V l) := fun V hV => hl.bel hV
  have HRI : Hid (∀ V, Bel w V → In zp V (.node hb 0 y (.node ib 0 z d u) q)) := fun V hV => hr.bel hV
  have HP : Hid (∀ V, Bel w V → In zp V (.node ib 0 z d u)) := fun V hV => hr.2.2.2.2.1.bel hV
  have HQ : Hid (∀ V, Bel w V → In zp V q) := fun V hV => hr.2.2.2.2.2.bel hV
  have HD : Hid (∀ V, Bel w V → In zp V d) := fun V hV => (HP.out V hV).2.2.2.2.1
  have HE : Hid (∀ V, Bel w V → In zp V u) := fun V hV => (HP.out V hV).2.2.2.2.2
  have HOz : Hid (Okx z) := (HP.out w (Bel.refl w)).2.2.2.1
  have HCI : Hid (∀ V, Bel w V → ∀ j, V.cell? ⟨ib, j, none⟩ = (ndC zp z (pa d) (pa u) (siz d + siz u + 1 : Nat) (mx (mx z.2 (rch d)) (rch u)))[j]?) := fun V hV => (HP.out V hV).2.2.1
  have HX : Hid (Okx x) := hx
  have HY : Hid (Okx y) := hr.2.2.2.1
  have HS : Hid (siz l + ((siz d + siz u + 1) + siz q + 1) < 500000000) := hs
  have i1 : (3 : Int) * ((siz l : Int) + 1) < ((siz d : Int) + (siz u : Int) + 1) + (siz q : Int) + 1 + 1 := by omega
  have i2 : decide (((siz d : Int) + (siz u : Int) + 1) + 1 < 2 * ((siz q : Int) + 1)) = false := by simp; omega
  have z1 : (siz l : Int) < 500000000 := by omega
  have z2 : ((siz d : Int) + (siz u : Int) + 1) < 500000000 := by omega
  have z3 : (siz q : Int) < 500000000 := by omega
  have HC : Hid (∀ V, Bel w V → ∀ j, V.cell? ⟨hb, j, none⟩ = (ndC zp y (some ⟨ib, 0, none⟩) (pa q) ((siz d + siz u + 1) + siz q + 1 : Nat) (mx (mx y.2 (rch (.node ib 0 z d u))) (rch q)))[j]?) := fun V hV => (hr.bel hV).2.2.1
  have C1 : Hid (∀ V, Bel w V → Calls Tryd.prog 79 #[.pointer (pa l)] V fun e w' => e = .returned (.int .i64 ((siz l : Int) + 1)) ∧ w' = V) := fun V hV => weight zp (pa l) (siz l) _ V (HLI.out V hV).chd (by have := HS.out; omega)
  have C2 : Hid (∀ V, Bel w V → Calls Tryd.prog 79 #[.pointer (some ⟨hb, 0, none⟩)] V fun e w' => e = .returned (.int .i64 (((siz d : Int) + (siz u : Int) + 1) + (siz q : Int) + 1 + 1)) ∧ w' = V) := fun V hV => by
    have h := weight zp (some ⟨hb, 0, none⟩) ((siz d + siz u + 1) + siz q + 1) _ V (HRI.out V hV).chd (by have := HS.out; omega)
    simpa using h
  have C3 : Hid (∀ V, Bel w V → Calls Tryd.prog 79 #[.pointer (some ⟨ib, 0, none⟩)] V fun e w' => e = .returned (.int .i64 (((siz d : Int) + (siz u : Int) + 1) + 1)) ∧ Bel V w') := fun V hV => by
    have h := weightB zp (some ⟨ib, 0, none⟩) ((siz d + siz u + 1)) _ V (HP.out V hV).chd (by have := HS.out; omega)
    simpa using h
  have C4 : Hid (∀ V, Bel w V → Calls Tryd.prog 79 #[.pointer (pa q)] V fun e w' => e = .returned (.int .i64 ((siz q : Int) + 1)) ∧ Bel V w') := fun V hV => by
    have h := weightB zp (pa q) (siz q) _ V (HQ.out V hV).chd (by have := HS.out; omega)
    simpa using h
  clear hz hl hr hx hs h1 h2
  go_enter Tryd.func72, Tryd.ntmps72
  go_wp2_with fail
  generalize (w.alloc (.cells #[.int .u64 0, .int .u64 (low x.1), .pointer (some zp), .int .u64 0, .int .u64 (low x.2), .pointer (some zp)] 49)) = W0 at *
  refine (C1.out _ hW).mono ?_
  rintro e w1 ⟨rfl, rfl⟩
  go_wp2_with fail
  refine (C2.out _ hW).mono ?_
  rintro e w1 ⟨rfl, rfl⟩
  go_wp2_with fail
  have wq : IntKind.i64.wrap (2 * ((siz q : Int) + 1)) = 2 * ((siz q : Int) + 1) := wrapI (by omega) (by omega)
  have kne := kinNe w1
  have n1 : ∀ kk : Kin w1, ∀ j, kk.at'.cell? ⟨hb, j, none⟩ = (ndC zp y (some ⟨ib, 0, none⟩) (pa q) ((siz d + siz u + 1) + siz q + 1 : Nat) (mx (mx y.2 (rch (.node ib 0 z d u))) (rch q)))[j]? := fun kk => HC.out _ (hW.trans kk.bel)
  have KB : Hid (∀ kk : Kin w1, Bel w kk.at') := fun kk => hW.trans kk.bel
  refine wp_region_kin (by kernel_rfl) (by kernel_rfl) ?_
  iterate 4 (quiet_step (rfl))
  quiet_step ((go_at_call 79; exact kin_of (C3.out _ (KB.out _))))
  iterate 4 (quiet_step (rfl))
  quiet_step ((go_at_call 79; exact kin_of (C4.out _ (KB.out _))))
  iterate 2 (quiet_step (rfl))
  refine wpQuiet_nil ?_
  intro W1 hw
  obtain ⟨kk, hw⟩ := hw
  have hbe := kk.bel
  rw [← hw] at hbe
  have hW1 : Bel w W1 := hW.trans hbe
  have HS1 := HSL.out.bel hbe
  clear hw kk n1 KB kne hbe hW HSL wq
  have n3 := HC.out _ hW1
  go_wp2_with fail
  clear n3
  have n1 : ∀ V, Bel W1 V → ∀ j, V.cell? ⟨hb, j, none⟩ = (ndC zp y (some ⟨ib, 0, none⟩) (pa q) ((siz d + siz u + 1) + siz q + 1 : Nat) (mx (mx y.2 (rch (.node ib 0 z d u))) (rch q)))[j]? := fun V hV => HC.out _ (hW1.trans hV)
  have e1 : ∀ V, Bel W1 V → ∀ j, V.cell? ⟨w.heap.size, j, none⟩ = #[Value.int .u64 0, .int .u64 (low x.1), .pointer (some zp), .int .u64 0, .int .u64 (low x.2), .pointer (some zp)][j]? := fun V hV => (HS1.bel hV).cell
  have n2 : ∀ V, Bel W1 V → ∀ j, V.cell? ⟨ib, j, none⟩ = (ndC zp z (pa d) (pa u) (siz d + siz u + 1 : Nat) (mx (mx z.2 (rch d)) (rch u)))[j]? := fun V hV => HCI.out _ (hW1.trans hV)
  go_region_held3 (fun w' => Bel W1 w') (first | assumption | exact (Bel.refl _).drew) (first | (have := hb2; go_at_call 53; refine (join zp z (.node _ 0 x l d) (.node _ 0 y u q) _ (HZ.out _ (hW1.trans (by assumption))) (by first | assumption | exact In.bel hb2 (by assumption)) (by first | assumption | exact In.bel hb2 (by assumption)) HOz.out (by have := HS.out; simp only [siz]; omega)).mono ?_; rintro e3 w3 ⟨b3, rfl, hin3, hb3⟩; have hB3 : Bel W1 w3 := Bel.trans (by assumption) hb3) | (have := hb1; go_at_call 53; refine (join zp _ _ _ _ (HZ.out _ (hW1.trans (by assumption))) (by first | exact HLI.out _ (hW1.trans (by assumption)) | exact HP.out _ (hW1.trans (by assumption)) | exact HQ.out _ (hW1.trans (by assumption)) | exact HD.out _ (hW1.trans (by assumption)) | exact HE.out _ (hW1.trans (by assumption))) (by first | exact HLI.out _ (hW1.trans (by assumption)) | exact HP.out _ (hW1.trans (by assumption)) | exact HQ.out _ (hW1.trans (by assumption)) | exact HD.out _ (hW1.trans (by assumption)) | exact HE.out _ (hW1.trans (by assumption))) (by first | exact HX.out | exact HY.out) (by have := HS.out; omega)).mono ?_; rintro e2 w2 ⟨b2, rfl, hin2, hb2⟩; have hB2 : Bel W1 w2 := Bel.trans (by assumption) hb2) | (go_at_call 53; refine (join zp _ _ _ _ (HZ.out _ (hW1.trans (by assumption))) (by first | exact HLI.out _ (hW1.trans (by assumption)) | exact HP.out _ (hW1.trans (by assumption)) | exact HQ.out _ (hW1.trans (by assumption)) | exact HD.out _ (hW1.trans (by assumption)) | exact HE.out _ (hW1.trans (by assumption))) (by first | exact HLI.out _ (hW1.trans (by assumption)) | exact HP.out _ (hW1.trans (by assumption)) | exact HQ.out _ (hW1.trans (by assumption)) | exact HD.out _ (hW1.trans (by assumption)) | exact HE.out _ (hW1.trans (by assumption))) (by first | exact HX.out | exact HY.out) (by have := HS.out; omega)).mono ?_; rintro e1 w1 ⟨b1, rfl, hin1, hb1⟩; have hB1 : Bel W1 w1 := Bel.trans (by assumption) hb1))
  all_goals
    go_wp2
    go_ret
    exact ⟨_, _, _, rfl, hin3, hW1.trans hB3⟩

set_option maxRecDepth 100000 in
set_option maxHeartbeats 8000000 in
/-- The left side is too heavy by one; two turns. -/
theorem balL2 (zp : Addr) (x y z : Int × Int) (l d u p : Tr) (hb ib : Nat) (w : World) (hz : Zed w zp) (hl : In zp w l) (hr : In zp w (.node hb 0 y p (.node ib 0 z d u))) (hx : Okx x) (hs : siz l + (siz p + (siz d + siz u + 1) + 1) < 500000000)
    (h1 : 3 * (siz l + 1) < siz p + (siz d + siz u + 1) + 1 + 1) (h2 : ¬ (siz d + siz u + 1) + 1 < 2 * (siz p + 1)) :
    Calls Tryd.prog 72 #[.pointer (some ⟨hb, 0, none⟩), entV zp x.1 x.2, .pointer (pa l)] w fun e w' => ∃ b1 b2 b3, e = .returned (.pointer (some ⟨b3, 0, none⟩)) ∧ In zp w' (.node b3 0 z (.node b1 0 y p d) (.node b2 0 x u l)) ∧ Bel w w' := by
  have hW : Bel w (w.alloc (.cells #[.int .u64 0, .int .u64 (low x.1), .pointer (some zp), .int .u64 0, .int .u64 (low x.2), .pointer (some zp)] 49)) := (Bel.refl _).alloc _
  have HSL : Hid (Slot (w.alloc (.cells #[.int .u64 0, .int .u64 (low x.1), .pointer (some zp), .int .u64 0, .int .u64 (low x.2), .pointer (some zp)] 49)) w.heap.size #[.int .u64 0, .int .u64 (low x.1), .pointer (some zp), .int .u64 0, .int .u64 (low x.2), .pointer (some zp)]) := Slot.new w #[.int .u64 0, .int .u64 (low x.1), .pointer (some zp), .int .u64 0, .int .u64 (low x.2), .pointer (some zp)] 49
  have HZ : Hid (∀ V, Bel w V → Zed V zp) := fun V hV => hz.bel hV
  have HLI : Hid (∀ V, Bel w V → In zp V l) := fun V hV => hl.bel hV
  have HRI : Hid (∀ V, Bel w V → In zp V (.node hb 0 y p (.node ib 0 z d u))) := fun V hV => hr.bel hV
  have HP : Hid (∀ V, Bel w V → In zp V p) := fun V hV => hr.2.2.2.2.1.bel hV
  have HQ : Hid (∀ V, Bel w V → In zp V (.node ib 0 z d u)) := fun V hV => hr.2.2.2.2.2.bel hV
  have HD : Hid (∀ V, Bel w V → In zp V d) := fun V hV => (HQ.out V hV).2.2.2.2.1
  have HE : Hid (∀ V, Bel w V → In zp V u) := fun V hV => (HQ.out V hV).2.2.2.2.2
  have HOz : Hid (Okx z) := (HQ.out w (Bel.refl w)).2.2.2.1
  have HCI : Hid (∀ V, Bel w V → ∀ j, V.cell? ⟨ib, j, none⟩ = (ndC zp z (pa d) (pa u) (siz d + siz u + 1 : Nat) (mx (mx z.2 (rch d)) (rch u)))[j]?) := fun V hV => (HQ.out V hV).2.2.1
  have HX : Hid (Okx x) := hx
  have HY : Hid (Okx y) := hr.2.2.2.1
  have HS : Hid (siz l + (siz p + (siz d + siz u + 1) + 1) < 500000000) := hs
  have i1 : (3 : Int) * ((siz l : Int) + 1) < (siz p : Int) + ((siz d : Int) + (siz u : Int) + 1) + 1 + 1 := by omega
  have i2 : decide (((siz d : Int) + (siz u : Int) + 1) + 1 < 2 * ((siz p : Int) + 1)) = false := by simp; omega
  have i0 : decide ((3 : Int) * ((siz p : Int) + ((siz d : Int) + (siz u : Int) + 1) + 1 + 1) < (siz l : Int) + 1) = false := by simp; omega
  have z1 : (siz l : Int) < 500000000 := by omega
  have z2 : (siz p : Int) < 500000000 := by omega
  have z3 : ((siz d : Int) + (siz u : Int) + 1) < 500000000 := by omega
  have HC : Hid (∀ V, Bel w V → ∀ j, V.cell? ⟨hb, j, none⟩ = (ndC zp y (pa p) (some ⟨ib, 0, none⟩) (siz p + (siz d + siz u + 1) + 1 : Nat) (mx (mx y.2 (rch p)) (rch (.node ib 0 z d u))))[j]?) := fun V hV => (hr.bel hV).2.2.1
  have C1 : Hid (∀ V, Bel w V → Calls Tryd.prog 79 #[.pointer (pa l)] V fun e w' => e = .returned (.int .i64 ((siz l : Int) + 1)) ∧ w' = V) := fun V hV => weight zp (pa l) (siz l) _ V (HLI.out V hV).chd (by have := HS.out; omega)
  have C2 : Hid (∀ V, Bel w V → Calls Tryd.prog 79 #[.pointer (some ⟨hb, 0, none⟩)] V fun e w' => e = .returned (.int .i64 ((siz p : Int) + ((siz d : Int) + (siz u : Int) + 1) + 1 + 1)) ∧ w' = V) := fun V hV => by
    have h := weight zp (some ⟨hb, 0, none⟩) (siz p + (siz d + siz u + 1) + 1) _ V (HRI.out V hV).chd (by have := HS.out; omega)
    simpa using h
  have C3 : Hid (∀ V, Bel w V → Calls Tryd.prog 79 #[.pointer (pa p)] V fun e w' => e = .returned (.int .i64 ((siz p : Int) + 1)) ∧ Bel V w') := fun V hV => by
    have h := weightB zp (pa p) (siz p) _ V (HP.out V hV).chd (by have := HS.out; omega)
    simpa using h
  have C4 : Hid (∀ V, Bel w V → Calls Tryd.prog 79 #[.pointer (some ⟨ib, 0, none⟩)] V fun e w' => e = .returned (.int .i64 (((siz d : Int) + (siz u : Int) + 1) + 1)) ∧ Bel V w') := fun V hV => by
    have h := weightB zp (some ⟨ib, 0, none⟩) ((siz d + siz u + 1)) _ V (HQ.out V hV).chd (by have := HS.out; omega)
    simpa using h
  clear hz hl hr hx hs h1 h2
  go_enter Tryd.func72, Tryd.ntmps72
  go_wp2_with fail
  generalize (w.alloc (.cells #[.int .u64 0, .int .u64 (low x.1), .pointer (some zp), .int .u64 0, .int .u64 (low x.2), .pointer (some zp)] 49)) = W0 at *
  refine (C2.out _ hW).mono ?_
  rintro e w1 ⟨rfl, rfl⟩
  go_wp2_with fail
  refine (C1.out _ hW).mono ?_
  rintro e w1 ⟨rfl, rfl⟩
  go_wp2_with fail
  refine (C1.out _ hW).mono ?_
  rintro e w1 ⟨rfl, rfl⟩
  go_wp2_with fail
  refine (C2.out _ hW).mono ?_
  rintro e w1 ⟨rfl, rfl⟩
  go_wp2_with fail
  have wq : IntKind.i64.wrap (2 * ((siz p : Int) + 1)) = 2 * ((siz p : Int) + 1) := wrapI (by omega) (by omega)
  have kne := kinNe w1
  have n1 : ∀ kk : Kin w1, ∀ j, kk.at'.cell? ⟨hb, j, none⟩ = (ndC zp y (pa p) (some ⟨ib, 0, none⟩) (siz p + (siz d + siz u + 1) + 1 : Nat) (mx (mx y.2 (rch p)) (rch (.node ib 0 z d u))))[j]? := fun kk => HC.out _ (hW.trans kk.bel)
  have KB : Hid (∀ kk : Kin w1, Bel w kk.at') := fun kk => hW.trans kk.bel
  refine wp_region_kin (by kernel_rfl) (by kernel_rfl) ?_
  iterate 4 (quiet_step (rfl))
  quiet_step ((go_at_call 79; exact kin_of (C4.out _ (KB.out _))))
  iterate 4 (quiet_step (rfl))
  quiet_step ((go_at_call 79; exact kin_of (C3.out _ (KB.out _))))
  iterate 2 (quiet_step (rfl))
  refine wpQuiet_nil ?_
  intro W1 hw
  obtain ⟨kk, hw⟩ := hw
  have hbe := kk.bel
  rw [← hw] at hbe
  have hW1 : Bel w W1 := hW.trans hbe
  have HS1 := HSL.out.bel hbe
  clear hw kk n1 KB kne hbe hW HSL wq
  have n3 := HC.out _ hW1
  go_wp2_with fail
  clear n3
  have n1 : ∀ V, Bel W1 V → ∀ j, V.cell? ⟨hb, j, none⟩ = (ndC zp y (pa p) (some ⟨ib, 0, none⟩) (siz p + (siz d + siz u + 1) + 1 : Nat) (mx (mx y.2 (rch p)) (rch (.node ib 0 z d u))))[j]? := fun V hV => HC.out _ (hW1.trans hV)
  have e1 : ∀ V, Bel W1 V → ∀ j, V.cell? ⟨w.heap.size, j, none⟩ = #[Value.int .u64 0, .int .u64 (low x.1), .pointer (some zp), .int .u64 0, .int .u64 (low x.2), .pointer (some zp)][j]? := fun V hV => (HS1.bel hV).cell
  have n2 : ∀ V, Bel W1 V → ∀ j, V.cell? ⟨ib, j, none⟩ = (ndC zp z (pa d) (pa u) (siz d + siz u + 1 : Nat) (mx (mx z.2 (rch d)) (rch u)))[j]? := fun V hV => HCI.out _ (hW1.trans hV)
  go_region_held3 (fun w' => Bel W1 w') (first | assumption | exact (Bel.refl _).drew) (first | (have := hb2; go_at_call 53; refine (join zp z (.node _ 0 y p d) (.node _ 0 x u l) _ (HZ.out _ (hW1.trans (by assumption))) (by first | assumption | exact In.bel hb2 (by assumption)) (by first | assumption | exact In.bel hb2 (by assumption)) HOz.out (by have := HS.out; simp only [siz]; omega)).mono ?_; rintro e3 w3 ⟨b3, rfl, hin3, hb3⟩; have hB3 : Bel W1 w3 := Bel.trans (by assumption) hb3) | (have := hb1; go_at_call 53; refine (join zp _ _ _ _ (HZ.out _ (hW1.trans (by assumption))) (by first | exact HLI.out _ (hW1.trans (by assumption)) | exact HP.out _ (hW1.trans (by assumption)) | exact HQ.out _ (hW1.trans (by assumption)) | exact HD.out _ (hW1.trans (by assumption)) | exact HE.out _ (hW1.trans (by assumption))) (by first | exact HLI.out _ (hW1.trans (by assumption)) | exact HP.out _ (hW1.trans (by assumption)) | exact HQ.out _ (hW1.trans (by assumption)) | exact HD.out _ (hW1.trans (by assumption)) | exact HE.out _ (hW1.trans (by assumption))) (by first | exact HX.out | exact HY.out) (by have := HS.out; omega)).mono ?_; rintro e2 w2 ⟨b2, rfl, hin2, hb2⟩; have hB2 : Bel W1 w2 := Bel.trans (by assumption) hb2) | (go_at_call 53; refine (join zp _ _ _ _ (HZ.out _ (hW1.trans (by assumption))) (by first | exact HLI.out _ (hW1.trans (by assumption)) | exact HP.out _ (hW1.trans (by assumption)) | exact HQ.out _ (hW1.trans (by assumption)) | exact HD.out _ (hW1.trans (by assumption)) | exact HE.out _ (hW1.trans (by assumption))) (by first | exact HLI.out _ (hW1.trans (by assumption)) | exact HP.out _ (hW1.trans (by assumption)) | exact HQ.out _ (hW1.trans (by assumption)) | exact HD.out _ (hW1.trans (by assumption)) | exact HE.out _ (hW1.trans (by assumption))) (by first | exact HX.out | exact HY.out) (by have := HS.out; omega)).mono ?_; rintro e1 w1 ⟨b1, rfl, hin1, hb1⟩; have hB1 : Bel W1 w1 := Bel.trans (by assumption) hb1))
  all_goals
    go_wp2
    go_ret
    exact ⟨_, _, _, rfl, hin3, hW1.trans hB3⟩

end Go.Proofs.Qxb6609544aDoor
