import Derived.Test.Qxb6609544aDoorChg
namespace Go.Proofs.Qxb6609544aDoor
open Go.RowKit
open Go.Deep (BT)

/-- What one insertion gives. -/
def Insd (zp : Addr) (x : Int × Int) (t : Tr) (w w' : World) (t1 : Tr) : Prop := In zp w' t1 ∧ Bal t1 ∧ lst t1 = insE x (lst t) ∧ Bel w w'

theorem In.set {zp : Addr} {w : World} {b o : Nat} {v : Value} (hb : w.cell? ⟨b, 11, none⟩ = none) : ∀ {t : Tr}, In zp w t → In zp (w.setCell ⟨b, o, none⟩ v) t
  | .nil, _ => trivial
  | .node b' _ _ _ _, h => by
    have ne : b' ≠ b := fun e => by
      have h1 := h.2.2.1 11
      rw [e, hb] at h1
      simp at h1
    have hh : (w.setCell ⟨b, o, none⟩ v).heap[b']? = w.heap[b']? := Below.heap_setCell w ⟨b, o, none⟩ v b' ne
    refine ⟨⟨h.1.1, by rw [hh]; exact h.1.2⟩, by simpa using h.2.1, fun j => ?_, h.2.2.2.1, In.set hb h.2.2.2.2.1, In.set hb h.2.2.2.2.2⟩
    rw [World.cell?_setCell_other w ⟨b, o, none⟩ ⟨b', j, none⟩ v (fun e => ne (congrArg Addr.block e).symm)]
    exact h.2.2.1 j

set_option maxRecDepth 100000 in
set_option maxHeartbeats 800000 in
theorem with48 (zp : Addr) (x : Int × Int) (hx : Okx x) (t : Tr) (w : World) (hz : Zed w zp) (hi : In zp w t) (hb : Bal t) (hs : Srt (lst t)) (hn : siz t < 400000000) :
    Calls Tryd.prog 48 #[.pointer (pa t), entV zp x.1 x.2] w fun e w' => ∃ t1 : Tr, e = .returned (.pointer (pa t1)) ∧ Insd zp x t w w' t1 := by
  have hW : Bel w (w.alloc (.cells #[.int .u64 0, .int .u64 (low x.1), .pointer (some zp), .int .u64 0, .int .u64 (low x.2), .pointer (some zp)] 49)) := (Bel.refl _).alloc _
  have J : Hid _ := change zp x hx t _ (hz.bel hW) (hi.bel hW) hb hs hn
  clear hz hi hb hs hn hx
  go_enter Tryd.func48, Tryd.ntmps48
  go_wp2_with fail
  refine Calls.mono J.out ?_
  rintro e w' ⟨t1, rfl, h1, h2, h3, h4⟩
  go_wp2_with fail
  go_ret
  exact ⟨t1, rfl, h1, h2, h3, hW.trans h4⟩

set_option maxRecDepth 100000 in
set_option maxHeartbeats 800000 in
theorem setWith (zp : Addr) (x : Int × Int) (hx : Okx x) (t : Tr) (w : World) (hz : Zed w zp) (hi : In zp w t) (hb : Bal t) (hs : Srt (lst t)) (hn : siz t < 400000000) :
    Calls Tryd.prog 31 #[.agg #[.pointer (pa t)], entV zp x.1 x.2] w fun e w' => ∃ t1 : Tr, e = .returned (.agg #[.pointer (pa t1)]) ∧ Insd zp x t w w' t1 := by
  have hW : Bel w (((w.alloc (.cells #[.pointer (pa t)] 33)).alloc (.cells #[.int .u64 0, .int .u64 (low x.1), .pointer (some zp), .int .u64 0, .int .u64 (low x.2), .pointer (some zp)] 49)).alloc (.cells #[.pointer none] 33)) := (((Bel.refl _).alloc _).alloc _).alloc _
  have hsl : Slot (((w.alloc (.cells #[.pointer (pa t)] 33)).alloc (.cells #[.int .u64 0, .int .u64 (low x.1), .pointer (some zp), .int .u64 0, .int .u64 (low x.2), .pointer (some zp)] 49)).alloc (.cells #[.pointer none] 33)) (w.heap.size + 1 + 1) #[.pointer none] := by
    have := Slot.new ((w.alloc (.cells #[.pointer (pa t)] 33)).alloc (.cells #[.int .u64 0, .int .u64 (low x.1), .pointer (some zp), .int .u64 0, .int .u64 (low x.2), .pointer (some zp)] 49)) #[.pointer none] 33
    simp only [World.size_alloc] at this
    exact this
  have J : Hid _ := with48 zp x hx t _ (hz.bel hW) (hi.bel hW) hb hs hn
  clear hz hi hb hs hn hx
  go_enter Tryd.func31, Tryd.ntmps31
  go_wp2_with fail
  refine Calls.mono J.out ?_
  rintro e w1 ⟨t1, rfl, h1, h2, h3, h4⟩
  have hs1 := hsl.bel h4
  have n1 := hs1.cell
  have n2 := hs1.froz
  have h5 := hW.trans h4
  go_wp2_with fail
  refine bodyPost_ret (v := .agg #[.pointer (pa t1)]) (by simp [results, Tryd.results31, go_sem, n1]) rfl ⟨t1, rfl, h1.set ((n1 11).trans rfl), h2, h3, h5.setCell (Nat.le_trans (Nat.le_add_right _ 1) (Nat.le_add_right _ 1)) _⟩

/-- The strings that name the lists. -/
def nm (allow : Bool) : ByteArray := if allow then ⟨#[97, 108, 108, 111, 119]⟩ else ⟨#[100, 101, 110, 121]⟩
set_option maxHeartbeats 800000 in
theorem setOf (lb : Nat) (al : Bool) (w : World) : Calls Tryd.prog 47 #[.pointer (some ⟨lb, 0, none⟩), .string (nm al)] w fun e w' => e = .returned (.pointer (some ⟨lb, if al then 0 else 1, none⟩)) ∧ w' = w := by
  cases al
  · show Calls Tryd.prog 47 #[.pointer (some ⟨lb, 0, none⟩), .string ⟨#[100, 101, 110, 121]⟩] w _
    go_enter Tryd.func47, Tryd.ntmps47
    go_wp2_with fail
    go_ret
    exact ⟨rfl, rfl⟩
  · show Calls Tryd.prog 47 #[.pointer (some ⟨lb, 0, none⟩), .string ⟨#[97, 108, 108, 111, 119]⟩] w _
    go_enter Tryd.func47, Tryd.ntmps47
    go_wp2_with fail
    go_ret
    exact ⟨rfl, rfl⟩

set_option maxRecDepth 100000 in
set_option maxHeartbeats 1600000 in
theorem changedA (zp : Addr) (x : Int × Int) (hx : Okx x) (lb : Nat) (a d : Tr) (w : World) (hz : Zed w zp) (hl : Slot w lb #[.pointer (pa a), .pointer (pa d)]) (hi : In zp w a) (hb : Bal a) (hs : Srt (lst a)) (hn : siz a < 400000000) :
    Calls Tryd.prog 30 #[.pointer (some ⟨lb, 0, none⟩), .string (nm true), entV zp x.1 x.2, .func (.func 31) #[] #[]] w fun e w' => ∃ nb t1, e = .returned (.pointer (some ⟨nb, 0, none⟩)) ∧ Slot w' nb #[.pointer (pa t1), .pointer (pa d)] ∧ Insd zp x a w w' t1 := by
  have hsl : Slot ((w.alloc (.cells #[.int .u64 0, .int .u64 (low x.1), .pointer (some zp), .int .u64 0, .int .u64 (low x.2), .pointer (some zp)] 49)).alloc (.cells #[.pointer (pa a), .pointer (pa d)] 59)) (w.heap.size + 1) #[.pointer (pa a), .pointer (pa d)] := by
    have h1 := Slot.new (w.alloc (.cells #[.int .u64 0, .int .u64 (low x.1), .pointer (some zp), .int .u64 0, .int .u64 (low x.2), .pointer (some zp)] 49)) #[.pointer (pa a), .pointer (pa d)] 59
    simp only [World.size_alloc] at h1
    exact h1
  have hW : Bel w ((w.alloc (.cells #[.int .u64 0, .int .u64 (low x.1), .pointer (some zp), .int .u64 0, .int .u64 (low x.2), .pointer (some zp)] 49)).alloc (.cells #[.pointer (pa a), .pointer (pa d)] 59)) := ((Bel.refl w).alloc _).alloc _
  have hbx : Slot ((w.alloc (.cells #[.int .u64 0, .int .u64 (low x.1), .pointer (some zp), .int .u64 0, .int .u64 (low x.2), .pointer (some zp)] 49)).alloc (.cells #[.pointer (pa a), .pointer (pa d)] 59)) w.heap.size #[.int .u64 0, .int .u64 (low x.1), .pointer (some zp), .int .u64 0, .int .u64 (low x.2), .pointer (some zp)] := (Slot.new w #[.int .u64 0, .int .u64 (low x.1), .pointer (some zp), .int .u64 0, .int .u64 (low x.2), .pointer (some zp)] 49).alloc _
  have S0 : Hid (∀ V, Calls Tryd.prog 47 #[.pointer (some ⟨w.heap.size + 1, 0, none⟩), .string (nm true)] V fun e w' => e = .returned (.pointer (some ⟨w.heap.size + 1, 0, none⟩)) ∧ w' = V) := fun V => setOf (w.heap.size + 1) true V
  have J : Hid (∀ V, Bel w V → Calls Tryd.prog 31 #[.agg #[.pointer (pa a)], entV zp x.1 x.2] V fun e w' => ∃ t1 : Tr, e = .returned (.agg #[.pointer (pa t1)]) ∧ Insd zp x a V w' t1) := fun V hV => setWith zp x hx a V (hz.bel hV) (hi.bel hV) hb hs hn
  have l2 : ∀ o, (w.alloc o).cell? ⟨lb, 0, none⟩ = some (.pointer (pa a)) := fun o => (World.cell?_alloc_lt _ _ _ hl.lt).trans ((hl.cell 0).trans rfl)
  have l3 : ∀ o, (w.alloc o).cell? ⟨lb, 1, none⟩ = some (.pointer (pa d)) := fun o => (World.cell?_alloc_lt _ _ _ hl.lt).trans ((hl.cell 1).trans rfl)
  clear hz hl hi hb hs hn hx
  go_enter Tryd.func30, Tryd.ntmps30
  go_wp2_with fail
  refine (S0.out _).mono ?_
  rintro e w1 ⟨rfl, rfl⟩
  generalize ((w.alloc (.cells #[.int .u64 0, .int .u64 (low x.1), .pointer (some zp), .int .u64 0, .int .u64 (low x.2), .pointer (some zp)] 49)).alloc (.cells #[.pointer (pa a), .pointer (pa d)] 59)) = W1 at *
  clear l2 l3
  go_wp2_with fail
  have n1 := hsl.cell
  have n2 := hsl.froz
  have e1 := hbx.cell
  go_region_with (go_at_call 31; refine (J.out _ hW.drew).mono ?_; rintro e w2 ⟨t1, rfl, h1, h2, h3, h4⟩; have hs2 := hsl.drew.bel h4; have m1 := hs2.cell; have m2 := hs2.froz)
  all_goals
    go_wp2_with fail
    go_ret
    refine ⟨w.heap.size + 1, t1, rfl, (hs2.set 0 _ (by simp)).cong rfl, h1.set ((m1 11).trans rfl), h2, h3, (hW.drew.trans h4).setCell (Nat.le_add_right _ 1) _⟩

set_option maxRecDepth 100000 in
set_option maxHeartbeats 1600000 in
theorem changedD (zp : Addr) (x : Int × Int) (hx : Okx x) (lb : Nat) (a d : Tr) (w : World) (hz : Zed w zp) (hl : Slot w lb #[.pointer (pa a), .pointer (pa d)]) (hi : In zp w d) (hb : Bal d) (hs : Srt (lst d)) (hn : siz d < 400000000) :
    Calls Tryd.prog 30 #[.pointer (some ⟨lb, 0, none⟩), .string (nm false), entV zp x.1 x.2, .func (.func 31) #[] #[]] w fun e w' => ∃ nb t1, e = .returned (.pointer (some ⟨nb, 0, none⟩)) ∧ Slot w' nb #[.pointer (pa a), .pointer (pa t1)] ∧ Insd zp x d w w' t1 := by
  have hsl : Slot ((w.alloc (.cells #[.int .u64 0, .int .u64 (low x.1), .pointer (some zp), .int .u64 0, .int .u64 (low x.2), .pointer (some zp)] 49)).alloc (.cells #[.pointer (pa a), .pointer (pa d)] 59)) (w.heap.size + 1) #[.pointer (pa a), .pointer (pa d)] := by
    have h1 := Slot.new (w.alloc (.cells #[.int .u64 0, .int .u64 (low x.1), .pointer (some zp), .int .u64 0, .int .u64 (low x.2), .pointer (some zp)] 49)) #[.pointer (pa a), .pointer (pa d)] 59
    simp only [World.size_alloc] at h1
    exact h1
  have hW : Bel w ((w.alloc (.cells #[.int .u64 0, .int .u64 (low x.1), .pointer (some zp), .int .u64 0, .int .u64 (low x.2), .pointer (some zp)] 49)).alloc (.cells #[.pointer (pa a), .pointer (pa d)] 59)) := ((Bel.refl w).alloc _).alloc _
  have hbx : Slot ((w.alloc (.cells #[.int .u64 0, .int .u64 (low x.1), .pointer (some zp), .int .u64 0, .int .u64 (low x.2), .pointer (some zp)] 49)).alloc (.cells #[.pointer (pa a), .pointer (pa d)] 59)) w.heap.size #[.int .u64 0, .int .u64 (low x.1), .pointer (some zp), .int .u64 0, .int .u64 (low x.2), .pointer (some zp)] := (Slot.new w #[.int .u64 0, .int .u64 (low x.1), .pointer (some zp), .int .u64 0, .int .u64 (low x.2), .pointer (some zp)] 49).alloc _
  have S0 : Hid (∀ V, Calls Tryd.prog 47 #[.pointer (some ⟨w.heap.size + 1, 0, none⟩), .string (nm false)] V fun e w' => e = .returned (.pointer (some ⟨w.heap.size + 1, 1, none⟩)) ∧ w' = V) := fun V => setOf (w.heap.size + 1) false V
  have J : Hid (∀ V, Bel w V → Calls Tryd.prog 31 #[.agg #[.pointer (pa d)], entV zp x.1 x.2] V fun e w' => ∃ t1 : Tr, e = .returned (.agg #[.pointer (pa t1)]) ∧ Insd zp x d V w' t1) := fun V hV => setWith zp x hx d V (hz.bel hV) (hi.bel hV) hb hs hn
  have l2 : ∀ o, (w.alloc o).cell? ⟨lb, 0, none⟩ = some (.pointer (pa a)) := fun o => (World.cell?_alloc_lt _ _ _ hl.lt).trans ((hl.cell 0).trans rfl)
  have l3 : ∀ o, (w.alloc o).cell? ⟨lb, 1, none⟩ = some (.pointer (pa d)) := fun o => (World.cell?_alloc_lt _ _ _ hl.lt).trans ((hl.cell 1).trans rfl)
  clear hz hl hi hb hs hn hx
  go_enter Tryd.func30, Tryd.ntmps30
  go_wp2_with fail
  refine (S0.out _).mono ?_
  rintro e w1 ⟨rfl, rfl⟩
  generalize ((w.alloc (.cells #[.int .u64 0, .int .u64 (low x.1), .pointer (some zp), .int .u64 0, .int .u64 (low x.2), .pointer (some zp)] 49)).alloc (.cells #[.pointer (pa a), .pointer (pa d)] 59)) = W1 at *
  clear l2 l3
  go_wp2_with fail
  have n1 := hsl.cell
  have n2 := hsl.froz
  have e1 := hbx.cell
  go_region_with (go_at_call 31; refine (J.out _ hW.drew).mono ?_; rintro e w2 ⟨t1, rfl, h1, h2, h3, h4⟩; have hs2 := hsl.drew.bel h4; have m1 := hs2.cell; have m2 := hs2.froz)
  all_goals
    go_wp2_with fail
    go_ret
    refine ⟨w.heap.size + 1, t1, rfl, (hs2.set 1 _ (by simp)).cong rfl, h1.set ((m1 11).trans rfl), h2, h3, (hW.drew.trans h4).setCell (Nat.le_add_right _ 1) _⟩

set_option maxRecDepth 100000 in
set_option maxHeartbeats 1600000 in
theorem withA (zp : Addr) (x : Int × Int) (hx : Okx x) (lb : Nat) (a d : Tr) (w : World) (hz : Zed w zp) (hl : Slot w lb #[.pointer (pa a), .pointer (pa d)]) (hi : In zp w a) (hb : Bal a) (hs : Srt (lst a)) (hn : siz a < 400000000) :
    Calls Tryd.prog 16 #[.pointer (some ⟨lb, 0, none⟩), .string (nm true), entV zp x.1 x.2] w fun e w' => ∃ nb t1, e = .returned (.pointer (some ⟨nb, 0, none⟩)) ∧ Slot w' nb #[.pointer (pa t1), .pointer (pa d)] ∧ Insd zp x a w w' t1 := by
  have hW : Bel w (w.alloc (.cells #[.int .u64 0, .int .u64 (low x.1), .pointer (some zp), .int .u64 0, .int .u64 (low x.2), .pointer (some zp)] 49)) := (Bel.refl w).alloc _
  have J : Hid (Calls Tryd.prog 30 #[.pointer (some ⟨lb, 0, none⟩), .string (nm true), entV zp x.1 x.2, .func (.func 31) #[] #[]] (w.alloc (.cells #[.int .u64 0, .int .u64 (low x.1), .pointer (some zp), .int .u64 0, .int .u64 (low x.2), .pointer (some zp)] 49)) fun e w' => ∃ nb t1, e = .returned (.pointer (some ⟨nb, 0, none⟩)) ∧ Slot w' nb #[.pointer (pa t1), .pointer (pa d)] ∧ Insd zp x a (w.alloc (.cells #[.int .u64 0, .int .u64 (low x.1), .pointer (some zp), .int .u64 0, .int .u64 (low x.2), .pointer (some zp)] 49)) w' t1) := changedA zp x hx lb a d _ (hz.bel hW) (hl.bel hW) (hi.bel hW) hb hs hn
  clear hz hl hi hb hs hn hx
  go_enter Tryd.func16, Tryd.ntmps16
  go_wp2_with fail
  refine J.out.mono ?_
  rintro e w2 ⟨nb, t1, rfl, hs2, h1, h2, h3, h4⟩
  go_wp2_with fail
  go_ret
  exact ⟨nb, t1, rfl, hs2, h1, h2, h3, hW.trans h4⟩

set_option maxRecDepth 100000 in
set_option maxHeartbeats 1600000 in
theorem withD (zp : Addr) (x : Int × Int) (hx : Okx x) (lb : Nat) (a d : Tr) (w : World) (hz : Zed w zp) (hl : Slot w lb #[.pointer (pa a), .pointer (pa d)]) (hi : In zp w d) (hb : Bal d) (hs : Srt (lst d)) (hn : siz d < 400000000) :
    Calls Tryd.prog 16 #[.pointer (some ⟨lb, 0, none⟩), .string (nm false), entV zp x.1 x.2] w fun e w' => ∃ nb t1, e = .returned (.pointer (some ⟨nb, 0, none⟩)) ∧ Slot w' nb #[.pointer (pa a), .pointer (pa t1)] ∧ Insd zp x d w w' t1 := by
  have hW : Bel w (w.alloc (.cells #[.int .u64 0, .int .u64 (low x.1), .pointer (some zp), .int .u64 0, .int .u64 (low x.2), .pointer (some zp)] 49)) := (Bel.refl w).alloc _
  have J : Hid (Calls Tryd.prog 30 #[.pointer (some ⟨lb, 0, none⟩), .string (nm false), entV zp x.1 x.2, .func (.func 31) #[] #[]] (w.alloc (.cells #[.int .u64 0, .int .u64 (low x.1), .pointer (some zp), .int .u64 0, .int .u64 (low x.2), .pointer (some zp)] 49)) fun e w' => ∃ nb t1, e = .returned (.pointer (some ⟨nb, 0, none⟩)) ∧ Slot w' nb #[.pointer (pa a), .pointer (pa t1)] ∧ Insd zp x d (w.alloc (.cells #[.int .u64 0, .int .u64 (low x.1), .pointer (some zp), .int .u64 0, .int .u64 (low x.2), .pointer (some zp)] 49)) w' t1) := changedD zp x hx lb a d _ (hz.bel hW) (hl.bel hW) (hi.bel hW) hb hs hn
  clear hz hl hi hb hs hn hx
  go_enter Tryd.func16, Tryd.ntmps16
  go_wp2_with fail
  refine J.out.mono ?_
  rintro e w2 ⟨nb, t1, rfl, hs2, h1, h2, h3, h4⟩
  go_wp2_with fail
  go_ret
  exact ⟨nb, t1, rfl, hs2, h1, h2, h3, hW.trans h4⟩
end Go.Proofs.Qxb6609544aDoor
