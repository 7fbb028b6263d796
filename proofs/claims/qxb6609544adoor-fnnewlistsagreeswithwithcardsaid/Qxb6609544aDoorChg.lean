import Derived.Test.Qxb6609544aDoorWith
import Derived.Test.Qxb6609544aDoorIns
namespace Go.Proofs.Qxb6609544aDoor
open Go.RowKit
open Go.Deep (BT)

set_option maxRecDepth 100000 in
set_option maxHeartbeats 800000 in
theorem withNil (zp : Addr) (x : Int × Int) (w : World) (hz : Zed w zp) (hx : Okx x) :
    Calls Tryd.prog 56 #[.pointer none, entV zp x.1 x.2] w fun e w' => ∃ b, e = .returned (.pointer (some ⟨b, 0, none⟩)) ∧ In zp w' (.node b 0 x .nil .nil) ∧ Bel w w' := by
  have hW : Bel w (w.alloc (.cells #[.int .u64 0, .int .u64 (low x.1), .pointer (some zp), .int .u64 0, .int .u64 (low x.2), .pointer (some zp)] 49)) := (Bel.refl _).alloc _
  have J : Hid (Calls Tryd.prog 53 #[.pointer none, entV zp x.1 x.2, .pointer none] (w.alloc (.cells #[.int .u64 0, .int .u64 (low x.1), .pointer (some zp), .int .u64 0, .int .u64 (low x.2), .pointer (some zp)] 49)) fun e w' => ∃ b, e = .returned (.pointer (some ⟨b, 0, none⟩)) ∧ In zp w' (.node b 0 x .nil .nil) ∧ Bel (w.alloc (.cells #[.int .u64 0, .int .u64 (low x.1), .pointer (some zp), .int .u64 0, .int .u64 (low x.2), .pointer (some zp)] 49)) w') :=
    join zp x .nil .nil _ (hz.bel hW) trivial trivial hx (by decide)
  clear hz hx
  go_enter Tryd.func56, Tryd.ntmps56
  go_wp2_with fail
  refine J.out.mono ?_
  rintro e w' ⟨b, rfl, hin, hb⟩
  go_wp2_with fail
  go_ret
  exact ⟨b, rfl, hin, hW.trans hb⟩
set_option maxHeartbeats 800000 in
theorem withHeld (zp : Addr) (x : Int × Int) (a : Addr) (w : World) :
    Calls Tryd.prog 56 #[.pointer (some a), entV zp x.1 x.2] w fun e w' => e = .returned (.pointer (some a)) ∧ Bel w w' := by
  go_enter Tryd.func56, Tryd.ntmps56
  go_wp2_with fail
  go_ret
  exact ⟨rfl, (Bel.refl _).alloc _⟩

set_option maxRecDepth 100000 in
set_option maxHeartbeats 8000000 in
theorem change (zp : Addr) (x : Int × Int) (hx : Okx x) : ∀ (t : Tr) (w : World), Zed w zp → In zp w t → Bal t → Srt (lst t) → siz t < 400000000 →
    Calls Tryd.prog 55 #[.pointer (pa t), entV zp x.1 x.2, .func (.func 56) #[] #[]] w fun e w' => ∃ t1 : Tr, e = .returned (.pointer (pa t1)) ∧ In zp w' t1 ∧ Bal t1 ∧ lst t1 = insE x (lst t) ∧ Bel w w' := by
  intro t
  induction t with
  | nil =>
    intro w hz _ _ _ _
    have hW : Bel w (w.alloc (.cells #[.int .u64 0, .int .u64 (low x.1), .pointer (some zp), .int .u64 0, .int .u64 (low x.2), .pointer (some zp)] 49)) := (Bel.refl _).alloc _
    have J := withNil zp x _ (hz.bel hW) hx
    have e1 := (Slot.new w #[.int .u64 0, .int .u64 (low x.1), .pointer (some zp), .int .u64 0, .int .u64 (low x.2), .pointer (some zp)] 49).cell
    have HJ : Hid (Calls Tryd.prog 56 #[.pointer none, entV zp x.1 x.2] (w.alloc (.cells #[.int .u64 0, .int .u64 (low x.1), .pointer (some zp), .int .u64 0, .int .u64 (low x.2), .pointer (some zp)] 49)) fun e w' => ∃ b, e = .returned (.pointer (some ⟨b, 0, none⟩)) ∧ In zp w' (.node b 0 x .nil .nil) ∧ Bel (w.alloc (.cells #[.int .u64 0, .int .u64 (low x.1), .pointer (some zp), .int .u64 0, .int .u64 (low x.2), .pointer (some zp)] 49)) w') := J
    clear J hz
    show Calls Tryd.prog 55 #[.pointer none, entV zp x.1 x.2, .func (.func 56) #[] #[]] w _
    go_enter Tryd.func55, Tryd.ntmps55
    go_wp2_with fail
    refine HJ.out.mono ?_
    rintro e w' ⟨b, rfl, hin, hb⟩
    go_wp2_with fail
    go_ret
    exact ⟨_, rfl, hin, by simp [Bal, siz], rfl, hW.trans hb⟩
  | node b o y l r ihl ihr =>
    intro w hz hin hbal hsrt hs
    obtain rfl : o = 0 := hin.1.1
    obtain ⟨_, _, hbl, hbr⟩ := id hbal
    simp only [siz] at hs
    obtain ⟨hsl, hsr', hlr⟩ := List.pairwise_append.1 hsrt
    obtain ⟨hyr, hsr⟩ := List.pairwise_cons.1 hsr'
    have gtl : 0 < cmpE x y → ∀ a ∈ lst l, 0 < cmpE x a := fun h a ha => cmpE_flip.2 (cmpE_trans (hlr a ha y (by simp)) (cmpE_flip.1 h))
    have gte : cmpE x y = 0 → ∀ a ∈ lst l, 0 < cmpE x a := fun h a ha => by rw [cmpE_eq] at h; subst h; exact cmpE_flip.2 (hlr a ha x (by simp))
    have hW : Bel w (w.alloc (.cells #[.int .u64 0, .int .u64 (low x.1), .pointer (some zp), .int .u64 0, .int .u64 (low x.2), .pointer (some zp)] 49)) := (Bel.refl _).alloc _
    have HSL : Hid (Slot (w.alloc (.cells #[.int .u64 0, .int .u64 (low x.1), .pointer (some zp), .int .u64 0, .int .u64 (low x.2), .pointer (some zp)] 49)) w.heap.size #[.int .u64 0, .int .u64 (low x.1), .pointer (some zp), .int .u64 0, .int .u64 (low x.2), .pointer (some zp)]) := Slot.new w #[.int .u64 0, .int .u64 (low x.1), .pointer (some zp), .int .u64 0, .int .u64 (low x.2), .pointer (some zp)] 49
    have HZ : Hid (∀ V, Bel w V → Zed V zp) := fun V hV => hz.bel hV
    have HN : Hid (∀ V, Bel w V → In zp V (.node b 0 y l r)) := fun V hV => hin.bel hV
    have HLI : Hid (∀ V, Bel w V → In zp V l) := fun V hV => hin.2.2.2.2.1.bel hV
    have HRI : Hid (∀ V, Bel w V → In zp V r) := fun V hV => hin.2.2.2.2.2.bel hV
    have HY : Hid (Okx y) := hin.2.2.2.1
    have HB : Hid (Bal (.node b 0 y l r)) := hbal
    have HC : Hid (∀ V, Bel w V → ∀ j, V.cell? ⟨b, j, none⟩ = (ndC zp y (pa l) (pa r) (siz l + siz r + 1 : Nat) (mx (mx y.2 (rch l)) (rch r)))[j]?) := fun V hV => (hin.bel hV).2.2.1
    clear hz hin hbal hsrt hsr' hyr hlr
    show Calls Tryd.prog 55 #[.pointer (some ⟨b, 0, none⟩), entV zp x.1 x.2, .func (.func 56) #[] #[]] w _
    go_enter Tryd.func55, Tryd.ntmps55
    go_wp2_with fail
    generalize (w.alloc (.cells #[.int .u64 0, .int .u64 (low x.1), .pointer (some zp), .int .u64 0, .int .u64 (low x.2), .pointer (some zp)] 49)) = W0 at *
    have kne := kinNe W0
    have n1 : ∀ p : Kin W0, ∀ j, p.at'.cell? ⟨b, j, none⟩ = (ndC zp y (pa l) (pa r) (siz l + siz r + 1 : Nat) (mx (mx y.2 (rch l)) (rch r)))[j]? := fun p => HC.out _ (hW.trans p.bel)
    have e1 : ∀ p : Kin W0, ∀ j, p.at'.cell? ⟨w.heap.size, j, none⟩ = #[Value.int .u64 0, .int .u64 (low x.1), .pointer (some zp), .int .u64 0, .int .u64 (low x.2), .pointer (some zp)][j]? := fun p => (HSL.out.bel p.bel).cell
    have KZ : Hid (∀ p : Kin W0, Zed p.at' zp) := fun p => HZ.out _ (hW.trans p.bel)
    refine wp_region_kin (by kernel_rfl) (by kernel_rfl) ?_
    repeat (quiet_step (first | rfl | (go_at_call 32; exact kin_of (compare zp _ _ _ _ _ (KZ.out _)))))
    refine wpQuiet_nil ?_
    intro W1 hw
    obtain ⟨kk, hw⟩ := hw
    have hbe := kk.bel
    rw [← hw] at hbe
    have hW1 : Bel w W1 := hW.trans hbe
    have HS1 := HSL.out.bel hbe
    clear hw kk n1 e1 KZ kne hbe hW HSL
    rcases (by omega : cmpE x y < 0 ∨ 0 < cmpE x y ∨ cmpE x y = 0) with hc | hc | hc
    · have hcc : cmpE (x.1, x.2) (y.1, y.2) < 0 := hc
      have IH : Hid (∀ V, Bel w V → Calls Tryd.prog 55 #[.pointer (pa l), entV zp x.1 x.2, .func (.func 56) #[] #[]] V fun e w' => ∃ t1 : Tr, e = .returned (.pointer (pa t1)) ∧ In zp w' t1 ∧ Bal t1 ∧ lst t1 = insE x (lst l) ∧ Bel V w') := fun V hV => ihl V (HZ.out V hV) (HLI.out V hV) hbl hsl (by omega)
      go_wp2_with fail
      have n1 : ∀ V, Bel W1 V → ∀ j, V.cell? ⟨b, j, none⟩ = (ndC zp y (pa l) (pa r) (siz l + siz r + 1 : Nat) (mx (mx y.2 (rch l)) (rch r)))[j]? := fun V hV => HC.out _ (hW1.trans hV)
      have e1 : ∀ V, Bel W1 V → ∀ j, V.cell? ⟨w.heap.size, j, none⟩ = #[Value.int .u64 0, .int .u64 (low x.1), .pointer (some zp), .int .u64 0, .int .u64 (low x.2), .pointer (some zp)][j]? := fun V hV => (HS1.bel hV).cell
      go_region_held3 (fun w' => Bel W1 w') (first | assumption | exact (Bel.refl _).drew) (first | (go_at_call 55; refine (IH.out _ (hW1.trans (by assumption))).mono ?_; rintro e2 W2 ⟨t1, rfl, hin1, hb1, hl1, hb2⟩; have hB2 : Bel W1 W2 := Bel.trans (by assumption) hb2))
      have hW2 : Bel w W2 := hW1.trans hB2
      have c2 := HC.out _ hW2
      have he := eqlTree hin1 (HLI.out _ hW2)
      clear n1 e1 IH
      by_cases hp : pa t1 = pa l
      · obtain rfl := In.uniq hin1 (HLI.out _ hW2) hp
        have hd : decide (pa t1 = pa t1) = true := by simp
        have HH1 : Hid (lst t1 = insE x (lst t1)) := hl1
        clear hin1 hb1 hl1 hb2
        go_wp2_with fail
        go_ret
        refine ⟨.node b 0 y t1 r, rfl, HN.out _ hW2, HB.out, ?_, hW2⟩
        show lst t1 ++ y :: lst r = _
        rw [show lst (BT.node b 0 y t1 r : Tr) = lst t1 ++ y :: lst r from rfl, insE_left hc, ← HH1.out]
      · have hd : decide (pa t1 = pa l) = false := by simp [hp]
        have hlen := insE_len x (lst l)
        rw [← hl1, siz_lst, siz_lst] at hlen
        have BL : Hid (∀ V, Bel W2 V → Calls Tryd.prog 72 #[.pointer (pa t1), entV zp y.1 y.2, .pointer (pa r)] V fun e w' => ∃ t : Tr, e = .returned (.pointer (pa t)) ∧ In zp w' t ∧ Bal t ∧ lst t = lst t1 ++ y :: lst r ∧ Bel V w') := fun V hV =>
          balance zp y t1 r V (HZ.out V (hW2.trans hV)) (hin1.bel hV) (HRI.out V (hW2.trans hV)) HY.out (by omega) hb1 hbr (by omega) (by omega)
        have HL1 : Hid (lst t1 = insE x (lst l)) := hl1
        clear hlen hin1 hb1 hl1 hb2
        go_wp2_with fail
        have n1 : ∀ V, Bel W2 V → ∀ j, V.cell? ⟨b, j, none⟩ = (ndC zp y (pa l) (pa r) (siz l + siz r + 1 : Nat) (mx (mx y.2 (rch l)) (rch r)))[j]? := fun V hV => HC.out _ (hW2.trans hV)
        clear he c2
        go_region_held3 (fun w' => Bel W2 w') (first | assumption | exact (Bel.refl _).drew) (first | (go_at_call 72; refine (BL.out _ (by assumption)).mono ?_; rintro e3 W3 ⟨t2, rfl, hin2, hb3, hl2, hb4⟩; have hB3 : Bel W2 W3 := Bel.trans (by assumption) hb4))
        clear n1 BL
        go_wp2_with fail
        go_ret
        refine ⟨t2, rfl, hin2, hb3, ?_, hW2.trans hB3⟩
        rw [hl2, HL1.out, show lst (BT.node b 0 y l r : Tr) = lst l ++ y :: lst r from rfl, insE_left hc]

    · have hcc : 0 < cmpE (x.1, x.2) (y.1, y.2) := hc
      have hcn : ¬ cmpE (x.1, x.2) (y.1, y.2) < 0 := by have : 0 < cmpE (x.1, x.2) (y.1, y.2) := hc; omega
      have IH : Hid (∀ V, Bel w V → Calls Tryd.prog 55 #[.pointer (pa r), entV zp x.1 x.2, .func (.func 56) #[] #[]] V fun e w' => ∃ t1 : Tr, e = .returned (.pointer (pa t1)) ∧ In zp w' t1 ∧ Bal t1 ∧ lst t1 = insE x (lst r) ∧ Bel V w') := fun V hV => ihr V (HZ.out V hV) (HRI.out V hV) hbr hsr (by omega)
      go_wp2_with fail
      have n1 : ∀ V, Bel W1 V → ∀ j, V.cell? ⟨b, j, none⟩ = (ndC zp y (pa l) (pa r) (siz l + siz r + 1 : Nat) (mx (mx y.2 (rch l)) (rch r)))[j]? := fun V hV => HC.out _ (hW1.trans hV)
      have e1 : ∀ V, Bel W1 V → ∀ j, V.cell? ⟨w.heap.size, j, none⟩ = #[Value.int .u64 0, .int .u64 (low x.1), .pointer (some zp), .int .u64 0, .int .u64 (low x.2), .pointer (some zp)][j]? := fun V hV => (HS1.bel hV).cell
      go_region_held3 (fun w' => Bel W1 w') (first | assumption | exact (Bel.refl _).drew) (first | (go_at_call 55; refine (IH.out _ (hW1.trans (by assumption))).mono ?_; rintro e2 W2 ⟨t1, rfl, hin1, hb1, hl1, hb2⟩; have hB2 : Bel W1 W2 := Bel.trans (by assumption) hb2))
      have hW2 : Bel w W2 := hW1.trans hB2
      have c2 := HC.out _ hW2
      have he := eqlTree hin1 (HRI.out _ hW2)
      clear n1 e1 IH
      by_cases hp : pa t1 = pa r
      · obtain rfl := In.uniq hin1 (HRI.out _ hW2) hp
        have hd : decide (pa t1 = pa t1) = true := by simp
        have HH1 : Hid (lst t1 = insE x (lst t1)) := hl1
        clear hin1 hb1 hl1 hb2
        go_wp2_with fail
        go_ret
        refine ⟨.node b 0 y l t1, rfl, HN.out _ hW2, HB.out, ?_, hW2⟩
        show lst l ++ y :: lst t1 = _
        rw [show lst (BT.node b 0 y l t1 : Tr) = lst l ++ y :: lst t1 from rfl, insE_right hc _ _ (gtl hc), ← HH1.out]
      · have hd : decide (pa t1 = pa r) = false := by simp [hp]
        have hlen := insE_len x (lst r)
        rw [← hl1, siz_lst, siz_lst] at hlen
        have BL : Hid (∀ V, Bel W2 V → Calls Tryd.prog 72 #[.pointer (pa l), entV zp y.1 y.2, .pointer (pa t1)] V fun e w' => ∃ t : Tr, e = .returned (.pointer (pa t)) ∧ In zp w' t ∧ Bal t ∧ lst t = lst l ++ y :: lst t1 ∧ Bel V w') := fun V hV =>
          balance zp y l t1 V (HZ.out V (hW2.trans hV)) (HLI.out V (hW2.trans hV)) (hin1.bel hV) HY.out (by omega) hbl hb1 (by omega) (by omega)
        have HL1 : Hid (lst t1 = insE x (lst r)) := hl1
        clear hlen hin1 hb1 hl1 hb2
        go_wp2_with fail
        have n1 : ∀ V, Bel W2 V → ∀ j, V.cell? ⟨b, j, none⟩ = (ndC zp y (pa l) (pa r) (siz l + siz r + 1 : Nat) (mx (mx y.2 (rch l)) (rch r)))[j]? := fun V hV => HC.out _ (hW2.trans hV)
        clear he c2
        go_region_held3 (fun w' => Bel W2 w') (first | assumption | exact (Bel.refl _).drew) (first | (go_at_call 72; refine (BL.out _ (by assumption)).mono ?_; rintro e3 W3 ⟨t2, rfl, hin2, hb3, hl2, hb4⟩; have hB3 : Bel W2 W3 := Bel.trans (by assumption) hb4))
        clear n1 BL
        go_wp2_with fail
        go_ret
        refine ⟨t2, rfl, hin2, hb3, ?_, hW2.trans hB3⟩
        rw [hl2, HL1.out, show lst (BT.node b 0 y l r : Tr) = lst l ++ y :: lst r from rfl, insE_right hc _ _ (gtl hc)]

    · have hcc : cmpE (x.1, x.2) (y.1, y.2) = 0 := hc
      have c2 := HC.out _ hW1
      have e2 := HS1.cell
      go_wp2_with fail
      refine (withHeld zp x ⟨b, 0, none⟩ _).mono ?_
      rintro e w2 ⟨rfl, hb2⟩
      go_wp2_with fail
      go_ret
      refine ⟨.node b 0 y l r, rfl, HN.out _ (hW1.trans hb2), HB.out, ?_, hW1.trans hb2⟩
      rw [show lst (BT.node b 0 y l r : Tr) = lst l ++ y :: lst r from rfl, insE_mid hc _ _ (gte hc)]
end Go.Proofs.Qxb6609544aDoor
