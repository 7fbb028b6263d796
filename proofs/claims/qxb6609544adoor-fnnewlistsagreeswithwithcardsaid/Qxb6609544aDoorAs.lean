import Derived.Test.Qxb6609544aDoorFour
namespace Go.Proofs.Qxb6609544aDoor
open Go.RowKit

/-- The four bytes of an address. -/
abbrev by4 (v : Int) : Array Value := #[.int .u8 (v / 16777216), .int .u8 (v / 65536 % 256), .int .u8 (v / 256 % 256), .int .u8 (v % 256)]
theorem num4_by (v : Int) : num4 (v / 16777216) (v / 65536 % 256) (v / 256 % 256) (v % 256) = v := by unfold num4; omega
theorem by4_byt (v : Int) (h : 0 ≤ v ∧ v < 4294967296) : Byt (v / 16777216) ∧ Byt (v / 65536 % 256) ∧ Byt (v / 256 % 256) ∧ Byt (v % 256) := by unfold Byt; omega
theorem by4_num (b0 b1 b2 b3 : Int) (h : Byt b0 ∧ Byt b1 ∧ Byt b2 ∧ Byt b3) : by4 (num4 b0 b1 b2 b3) = #[.int .u8 b0, .int .u8 b1, .int .u8 b2, .int .u8 b3] := by
  unfold Byt at h
  have e0 : num4 b0 b1 b2 b3 / 16777216 = b0 := by unfold num4; omega
  have e1 : num4 b0 b1 b2 b3 / 65536 % 256 = b1 := by unfold num4; omega
  have e2 : num4 b0 b1 b2 b3 / 256 % 256 = b2 := by unfold num4; omega
  have e3 : num4 b0 b1 b2 b3 % 256 = b3 := by unfold num4; omega
  simp only [by4, e0, e1, e2, e3]

set_option maxRecDepth 100000 in
set_option maxHeartbeats 1000000 in
theorem bePut (g : Nat) (v x0 x1 x2 x3 : Int) (w : World) (hs : Slot w g #[.int .u8 x0, .int .u8 x1, .int .u8 x2, .int .u8 x3]) (hv : 0 ≤ v ∧ v < 4294967296) :
    Calls Tryd.prog 71 #[.slice (some ⟨g, 0, none⟩) 4 4, .int .u32 v] w fun e w' => e = .returned (.tuple #[]) ∧ Slot w' g (by4 v) ∧ (∀ W, Bel W w → W.heap.size ≤ g → Bel W w') := by
  have c := hs.cell
  have f := hs.froz
  go_enter Tryd.func71, Tryd.ntmps71
  go_wp2_with fail
  go_end0
  refine ⟨rfl, ((((hs.set 0 _ (by simp)).set 1 _ (by simp)).set 2 _ (by simp)).set 3 _ (by simp)).cong rfl, fun W hW hg => (((hW.setCell hg _).setCell hg _).setCell hg _).setCell hg _⟩

set_option maxRecDepth 100000 in
set_option maxHeartbeats 1000000 in
theorem as4 (zp : Addr) (v : Int) (w : World) (hz : Zed w zp) (hv : 0 ≤ v ∧ v < 4294967296) :
    Calls Tryd.prog 54 #[addrV zp v] w fun e w' => e = .returned (.agg (by4 v)) ∧ Bel w w' := by
  have hW : Bel w ((w.alloc (.cells #[.int .u64 0, .int .u64 (low v), .pointer (some zp)] 47)).alloc (.cells #[.int .u8 0, .int .u8 0, .int .u8 0, .int .u8 0] 35)) := ((Bel.refl w).alloc _).alloc _
  have s1 := (Slot.new w #[.int .u64 0, .int .u64 (low v), .pointer (some zp)] 47).alloc (.cells #[.int .u8 0, .int .u8 0, .int .u8 0, .int .u8 0] 35)
  have s2 : Slot ((w.alloc (.cells #[.int .u64 0, .int .u64 (low v), .pointer (some zp)] 47)).alloc (.cells #[.int .u8 0, .int .u8 0, .int .u8 0, .int .u8 0] 35)) (w.heap.size + 1) #[.int .u8 0, .int .u8 0, .int .u8 0, .int .u8 0] := by
    have := Slot.new (w.alloc (.cells #[.int .u64 0, .int .u64 (low v), .pointer (some zp)] 47)) #[.int .u8 0, .int .u8 0, .int .u8 0, .int .u8 0] 35
    simp only [World.size_alloc] at this
    exact this
  have hz0 := hz.bel hW
  have g4 := hz0.z4
  have q2 := eqlY zp
  have hw32 : IntKind.u32.wrap (low v) = v := by unfold low; simp [IntKind.wrap, IntKind.bits, IntKind.signed]; omega
  have J : Hid (∀ V, Slot V (w.heap.size + 1) #[.int .u8 0, .int .u8 0, .int .u8 0, .int .u8 0] → Calls Tryd.prog 71 #[.slice (some ⟨w.heap.size + 1, 0, none⟩) 4 4, .int .u32 v] V fun e w' => e = .returned (.tuple #[]) ∧ Slot w' (w.heap.size + 1) (by4 v) ∧ (∀ W, Bel W V → W.heap.size ≤ w.heap.size + 1 → Bel W w')) := fun V hV => bePut _ v 0 0 0 0 V hV hv
  have c1 := s1.cell
  have c2 := s2.cell
  clear hz hz0 hv
  go_enter Tryd.func54, Tryd.ntmps54
  generalize hG : (w.alloc (.cells #[.int .u64 0, .int .u64 (low v), .pointer (some zp)] 47)).alloc (.cells #[.int .u8 0, .int .u8 0, .int .u8 0, .int .u8 0] 35) = W0 at *
  go_wp2_with fail
  go_region_with (go_at_call 71; refine (J.out _ s2.drew).mono ?_; rintro e w2 ⟨rfl, hs2, hb2⟩; have m1 := hs2.cell; have m2 := hs2.froz)
  all_goals
    have hB := hb2 w hW.drew (Nat.le_add_right _ _)
    go_wp2_with fail
    have hg : w.heap.size ≤ w.heap.size + 1 := Nat.le_add_right _ _
    refine bodyPost_ret (v := .agg (by4 v)) (by simp [results, Tryd.results54, go_sem, m1]) rfl ⟨rfl, (((hB.setCell hg _).setCell hg _).setCell hg _).setCell hg _⟩

set_option maxRecDepth 100000 in
set_option maxHeartbeats 1000000 in
theorem zzfirst4 (zp : Addr) (x : Int × Int) (w : World) (hz : Zed w zp) (hx : Okx x) : Calls Tryd.prog 42 #[entV zp x.1 x.2] w fun e w' => e = .returned (.agg (by4 x.1)) ∧ Bel w w' := by
  have hW : Bel w ((w.alloc (.cells #[.int .u64 0, .int .u64 (low x.1), .pointer (some zp), .int .u64 0, .int .u64 (low x.2), .pointer (some zp)] 49)).alloc (.cells #[.int .u8 0, .int .u8 0, .int .u8 0, .int .u8 0] 35)) := ((Bel.refl w).alloc _).alloc _
  have s2 : Slot ((w.alloc (.cells #[.int .u64 0, .int .u64 (low x.1), .pointer (some zp), .int .u64 0, .int .u64 (low x.2), .pointer (some zp)] 49)).alloc (.cells #[.int .u8 0, .int .u8 0, .int .u8 0, .int .u8 0] 35)) (w.heap.size + 1) #[.int .u8 0, .int .u8 0, .int .u8 0, .int .u8 0] := by
    have := Slot.new (w.alloc (.cells #[.int .u64 0, .int .u64 (low x.1), .pointer (some zp), .int .u64 0, .int .u64 (low x.2), .pointer (some zp)] 49)) #[.int .u8 0, .int .u8 0, .int .u8 0, .int .u8 0] 35
    simp only [World.size_alloc] at this
    exact this
  have J : Hid (Calls Tryd.prog 54 #[addrV zp x.1] ((w.alloc (.cells #[.int .u64 0, .int .u64 (low x.1), .pointer (some zp), .int .u64 0, .int .u64 (low x.2), .pointer (some zp)] 49)).alloc (.cells #[.int .u8 0, .int .u8 0, .int .u8 0, .int .u8 0] 35)) fun e w' => e = .returned (.agg (by4 x.1)) ∧ Bel ((w.alloc (.cells #[.int .u64 0, .int .u64 (low x.1), .pointer (some zp), .int .u64 0, .int .u64 (low x.2), .pointer (some zp)] 49)).alloc (.cells #[.int .u8 0, .int .u8 0, .int .u8 0, .int .u8 0] 35)) w') := as4 zp x.1 _ (hz.bel hW) ⟨hx.1, hx.2.1⟩
  clear hz hx
  go_enter Tryd.func42, Tryd.ntmps42
  go_wp2_with fail
  refine J.out.mono ?_
  rintro e w2 ⟨rfl, hb2⟩
  have hs2 := s2.bel hb2
  have m1 := hs2.cell
  have m2 := hs2.froz
  have hB := hW.trans hb2
  go_wp2_with fail
  have hg : w.heap.size ≤ w.heap.size + 1 := Nat.le_add_right _ _
  refine bodyPost_ret (v := .agg (by4 x.1)) (by simp [results, Tryd.results42, go_sem, m1]) rfl ⟨rfl, (((hB.setCell hg _).setCell hg _).setCell hg _).setCell hg _⟩

set_option maxRecDepth 100000 in
set_option maxHeartbeats 1000000 in
theorem zzlast4 (zp : Addr) (x : Int × Int) (w : World) (hz : Zed w zp) (hx : Okx x) : Calls Tryd.prog 43 #[entV zp x.1 x.2] w fun e w' => e = .returned (.agg (by4 x.2)) ∧ Bel w w' := by
  have hW : Bel w ((w.alloc (.cells #[.int .u64 0, .int .u64 (low x.1), .pointer (some zp), .int .u64 0, .int .u64 (low x.2), .pointer (some zp)] 49)).alloc (.cells #[.int .u8 0, .int .u8 0, .int .u8 0, .int .u8 0] 35)) := ((Bel.refl w).alloc _).alloc _
  have s2 : Slot ((w.alloc (.cells #[.int .u64 0, .int .u64 (low x.1), .pointer (some zp), .int .u64 0, .int .u64 (low x.2), .pointer (some zp)] 49)).alloc (.cells #[.int .u8 0, .int .u8 0, .int .u8 0, .int .u8 0] 35)) (w.heap.size + 1) #[.int .u8 0, .int .u8 0, .int .u8 0, .int .u8 0] := by
    have := Slot.new (w.alloc (.cells #[.int .u64 0, .int .u64 (low x.1), .pointer (some zp), .int .u64 0, .int .u64 (low x.2), .pointer (some zp)] 49)) #[.int .u8 0, .int .u8 0, .int .u8 0, .int .u8 0] 35
    simp only [World.size_alloc] at this
    exact this
  have J : Hid (Calls Tryd.prog 54 #[addrV zp x.2] ((w.alloc (.cells #[.int .u64 0, .int .u64 (low x.1), .pointer (some zp), .int .u64 0, .int .u64 (low x.2), .pointer (some zp)] 49)).alloc (.cells #[.int .u8 0, .int .u8 0, .int .u8 0, .int .u8 0] 35)) fun e w' => e = .returned (.agg (by4 x.2)) ∧ Bel ((w.alloc (.cells #[.int .u64 0, .int .u64 (low x.1), .pointer (some zp), .int .u64 0, .int .u64 (low x.2), .pointer (some zp)] 49)).alloc (.cells #[.int .u8 0, .int .u8 0, .int .u8 0, .int .u8 0] 35)) w') := as4 zp x.2 _ (hz.bel hW) ⟨hx.2.2.1, hx.2.2.2⟩
  clear hz hx
  go_enter Tryd.func43, Tryd.ntmps43
  go_wp2_with fail
  refine J.out.mono ?_
  rintro e w2 ⟨rfl, hb2⟩
  have hs2 := s2.bel hb2
  have m1 := hs2.cell
  have m2 := hs2.froz
  have hB := hW.trans hb2
  go_wp2_with fail
  have hg : w.heap.size ≤ w.heap.size + 1 := Nat.le_add_right _ _
  refine bodyPost_ret (v := .agg (by4 x.2)) (by simp [results, Tryd.results43, go_sem, m1]) rfl ⟨rfl, (((hB.setCell hg _).setCell hg _).setCell hg _).setCell hg _⟩

set_option maxHeartbeats 400000 in
theorem zzleft (zp : Addr) (b : Nat) (x : Int × Int) (lp rp : Option Addr) (n m : Int) (w : World) (h : ∀ j, w.cell? ⟨b, j, none⟩ = (ndC zp x lp rp n m)[j]?) : Calls Tryd.prog 39 #[.pointer (some ⟨b, 0, none⟩)] w fun e w' => e = .returned (.pointer lp) ∧ w' = w := by
  go_enter Tryd.func39, Tryd.ntmps39
  go_wp2_with fail
  go_ret
  exact ⟨rfl, rfl⟩

set_option maxHeartbeats 400000 in
theorem zzright (zp : Addr) (b : Nat) (x : Int × Int) (lp rp : Option Addr) (n m : Int) (w : World) (h : ∀ j, w.cell? ⟨b, j, none⟩ = (ndC zp x lp rp n m)[j]?) : Calls Tryd.prog 40 #[.pointer (some ⟨b, 0, none⟩)] w fun e w' => e = .returned (.pointer rp) ∧ w' = w := by
  go_enter Tryd.func40, Tryd.ntmps40
  go_wp2_with fail
  go_ret
  exact ⟨rfl, rfl⟩

set_option maxHeartbeats 400000 in
theorem zzsize (zp : Addr) (b : Nat) (x : Int × Int) (lp rp : Option Addr) (n m : Int) (w : World) (h : ∀ j, w.cell? ⟨b, j, none⟩ = (ndC zp x lp rp n m)[j]?) : Calls Tryd.prog 44 #[.pointer (some ⟨b, 0, none⟩)] w fun e w' => e = .returned (.int .i64 n) ∧ w' = w := by
  go_enter Tryd.func44, Tryd.ntmps44
  go_wp2_with fail
  go_ret
  exact ⟨rfl, rfl⟩

set_option maxRecDepth 100000 in
set_option maxHeartbeats 1000000 in
theorem zzreach4 (zp : Addr) (b : Nat) (x : Int × Int) (lp rp : Option Addr) (n m : Int) (w : World) (hz : Zed w zp) (h : ∀ j, w.cell? ⟨b, j, none⟩ = (ndC zp x lp rp n m)[j]?) (hb : b < w.heap.size) (hm : 0 ≤ m ∧ m < 4294967296) :
    Calls Tryd.prog 45 #[.pointer (some ⟨b, 0, none⟩)] w fun e w' => e = .returned (.agg (by4 m)) ∧ Bel w w' := by
  have hW : Bel w (w.alloc (.cells #[.int .u8 0, .int .u8 0, .int .u8 0, .int .u8 0] 35)) := (Bel.refl w).alloc _
  have s2 := Slot.new w #[.int .u8 0, .int .u8 0, .int .u8 0, .int .u8 0] 35
  have c : ∀ j, (w.alloc (.cells #[.int .u8 0, .int .u8 0, .int .u8 0, .int .u8 0] 35)).cell? ⟨b, j, none⟩ = (ndC zp x lp rp n m)[j]? := fun j => (World.cell?_alloc_lt _ _ _ hb).trans (h j)
  have J : Hid (Calls Tryd.prog 54 #[addrV zp m] (w.alloc (.cells #[.int .u8 0, .int .u8 0, .int .u8 0, .int .u8 0] 35)) fun e w' => e = .returned (.agg (by4 m)) ∧ Bel (w.alloc (.cells #[.int .u8 0, .int .u8 0, .int .u8 0, .int .u8 0] 35)) w') := as4 zp m _ (hz.bel hW) hm
  clear hz hm h
  go_enter Tryd.func45, Tryd.ntmps45
  go_wp2_with fail
  refine J.out.mono ?_
  rintro e w2 ⟨rfl, hb2⟩
  have hs2 := s2.bel hb2
  have m1 := hs2.cell
  have m2 := hs2.froz
  have hB := hW.trans hb2
  clear c
  go_wp2_with fail
  refine bodyPost_ret (v := .agg (by4 m)) (by simp [results, Tryd.results45, go_sem, m1]) rfl ⟨rfl, (((hB.setCell (Nat.le_refl _) _).setCell (Nat.le_refl _) _).setCell (Nat.le_refl _) _).setCell (Nat.le_refl _) _⟩

set_option maxRecDepth 100000 in
set_option maxHeartbeats 1000000 in
theorem zzentry (zp : Addr) (b : Nat) (x : Int × Int) (lp rp : Option Addr) (n m : Int) (w : World) (h : ∀ j, w.cell? ⟨b, j, none⟩ = (ndC zp x lp rp n m)[j]?) (hb : b < w.heap.size) :
    Calls Tryd.prog 41 #[.pointer (some ⟨b, 0, none⟩)] w fun e w' => e = .returned (entV zp x.1 x.2) ∧ Bel w w' := by
  have c : ∀ o j, (w.alloc o).cell? ⟨b, j, none⟩ = (ndC zp x lp rp n m)[j]? := fun o j => (World.cell?_alloc_lt _ _ _ hb).trans (h j)
  clear h
  go_enter Tryd.func41, Tryd.ntmps41
  go_wp2_with fail
  refine bodyPost_ret (v := entV zp x.1 x.2) (by simp [results, Tryd.results41, go_sem]) rfl ⟨rfl, (Bel.refl w).alloc _⟩

set_option maxHeartbeats 1000000 in
theorem zzroot (p : Option Addr) (w : World) : Calls Tryd.prog 12 #[.agg #[.pointer p]] w fun e w' => e = .returned (.pointer p) ∧ Bel w w' := by
  go_enter Tryd.func12, Tryd.ntmps12
  go_wp2_with fail
  go_ret
  exact ⟨rfl, (Bel.refl w).alloc _⟩
set_option maxHeartbeats 1000000 in
theorem zzallow (lb : Nat) (p q : Option Addr) (w : World) (h : Slot w lb #[.pointer p, .pointer q]) : Calls Tryd.prog 13 #[.pointer (some ⟨lb, 0, none⟩)] w fun e w' => e = .returned (.agg #[.pointer p]) ∧ Bel w w' := by
  have c : ∀ o, (w.alloc o).cell? ⟨lb, 0, none⟩ = some (.pointer p) := fun o => (World.cell?_alloc_lt _ _ _ h.lt).trans ((h.cell 0).trans rfl)
  clear h
  go_enter Tryd.func13, Tryd.ntmps13
  go_wp2_with fail
  refine bodyPost_ret (v := .agg #[.pointer p]) (by simp [results, Tryd.results13, go_sem]) rfl ⟨rfl, (Bel.refl w).alloc _⟩
set_option maxHeartbeats 1000000 in
theorem zzdeny (lb : Nat) (p q : Option Addr) (w : World) (h : Slot w lb #[.pointer p, .pointer q]) : Calls Tryd.prog 14 #[.pointer (some ⟨lb, 0, none⟩)] w fun e w' => e = .returned (.agg #[.pointer q]) ∧ Bel w w' := by
  have c : ∀ o, (w.alloc o).cell? ⟨lb, 1, none⟩ = some (.pointer q) := fun o => (World.cell?_alloc_lt _ _ _ h.lt).trans ((h.cell 1).trans rfl)
  clear h
  go_enter Tryd.func14, Tryd.ntmps14
  go_wp2_with fail
  refine bodyPost_ret (v := .agg #[.pointer q]) (by simp [results, Tryd.results14, go_sem]) rfl ⟨rfl, (Bel.refl w).alloc _⟩
end Go.Proofs.Qxb6609544aDoor
