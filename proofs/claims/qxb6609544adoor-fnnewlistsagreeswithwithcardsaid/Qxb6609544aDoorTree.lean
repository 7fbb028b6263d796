import Derived.Test.Qxb6609544aDoorEnt
import Derived.Deep.Trees
namespace Go.Proofs.Qxb6609544aDoor
open Go.RowKit
open Go.Deep (BT)

/-! ### Trees as they are thought -/
abbrev Tr := BT (Int × Int)
def mx (a b : Int) : Int := if a < b then b else a
def siz : Tr → Nat
  | .nil => 0
  | .node _ _ _ l r => siz l + siz r + 1
def rch : Tr → Int
  | .nil => -1
  | .node _ _ x l r => mx (mx x.2 (rch l)) (rch r)
def lst : Tr → List (Int × Int)
  | .nil => []
  | .node _ _ x l r => lst l ++ x :: lst r
def Bal : Tr → Prop
  | .nil => True
  | .node _ _ _ l r => siz r + 1 ≤ 3 * (siz l + 1) ∧ siz l + 1 ≤ 3 * (siz r + 1) ∧ Bal l ∧ Bal r
theorem siz_lst : ∀ t : Tr, (lst t).length = siz t
  | .nil => rfl
  | .node _ _ x l r => by have h1 := siz_lst l; have h2 := siz_lst r; simp [lst, siz, h1, h2]; omega
/-- Where the root lies. -/
def pa : Tr → Option Addr
  | .nil => none
  | .node b o _ _ _ => some ⟨b, o, none⟩
/-- An IPv4 range's bounds. -/
def Okx (x : Int × Int) : Prop := 0 ≤ x.1 ∧ x.1 < 4294967296 ∧ 0 ≤ x.2 ∧ x.2 < 4294967296

/-! ### Trees as they lie in memory -/
/-- A node's twelve cells. -/
abbrev ndC (zp : Addr) (x : Int × Int) (lp rp : Option Addr) (n : Int) (m : Int) : Array Value :=
  #[.int .u64 0, .int .u64 (low x.1), .pointer (some zp), .int .u64 0, .int .u64 (low x.2), .pointer (some zp), .pointer lp, .pointer rp, .int .i64 n, .int .u64 0, .int .u64 (low m), .pointer (some zp)]
def In (zp : Addr) (w : World) : Tr → Prop
  | .nil => True
  | .node b o x l r => (o = 0 ∧ ∃ t, w.heap[b]? = some (.cells (ndC zp x (pa l) (pa r) (siz l + siz r + 1 : Nat) (mx (mx x.2 (rch l)) (rch r))) t (0, 0))) ∧ b < w.heap.size ∧ (∀ j, w.cell? ⟨b, j, none⟩ = (ndC zp x (pa l) (pa r) (siz l + siz r + 1 : Nat) (mx (mx x.2 (rch l)) (rch r)))[j]?) ∧ Okx x ∧ In zp w l ∧ In zp w r
theorem In.bel {zp : Addr} {w w' : World} (k : Bel w w') : ∀ {t : Tr}, In zp w t → In zp w' t
  | .nil, _ => trivial
  | .node b _ _ _ _, h => ⟨⟨h.1.1, by obtain ⟨t, ht⟩ := h.1.2; exact ⟨t, (k.below.block b h.2.1).trans ht⟩⟩, Nat.lt_of_lt_of_le h.2.1 k.size, fun j => (k.below.cell (p := ⟨b, j, none⟩) h.2.1).trans (h.2.2.1 j), h.2.2.2.1, In.bel k h.2.2.2.2.1, In.bel k h.2.2.2.2.2⟩
theorem rch_ok {zp : Addr} {w : World} : ∀ {t : Tr}, In zp w t → -1 ≤ rch t ∧ rch t < 4294967296
  | .nil, _ => by decide
  | .node _ _ _ _ _, h => by
    have h1 := rch_ok h.2.2.2.2.1
    have h2 := rch_ok h.2.2.2.2.2
    have h3 := h.2.2.2.1
    unfold Okx at h3
    simp only [rch, mx]
    repeat' split
    all_goals omega
theorem mx_nil {a : Int} (h : 0 ≤ a) : mx a (rch .nil) = a := by unfold mx rch; rw [if_neg (by omega)]

/-- The index into the two children, under a name of its own. -/
def Ix (v i : Value) : Sem Value := Instr.index 109 v i
theorem ixN (v i : Value) : Instr.index 109 v i = Ix v i := rfl
theorem ix0 (p q : Option Addr) (W : World) : (Ix (.agg #[.pointer p, .pointer q]) (.int .i64 0)).run Tryd.prog W = .ok (.pointer p) W := by
  unfold Ix; kernel_rfl
theorem ix1 (p q : Option Addr) (W : World) : (Ix (.agg #[.pointer p, .pointer q]) (.int .i64 1)).run Tryd.prog W = .ok (.pointer q) W := by
  unfold Ix; kernel_rfl
attribute [local go_sem ↓] ixN
attribute [local go_sem] ix0 ix1
theorem wrap_id {a : Int} (h1 : -9223372036854775808 ≤ a) (h2 : a < 9223372036854775808) : wrap64 a = a := by simp [wrap64]; omega
theorem mx_nn {a b : Int} (h : 0 ≤ a) : 0 ≤ mx a b := by unfold mx; split <;> omega

/-- A child as join sees it: where it lies, its size, its reach. -/
def Chd (zp : Addr) (w : World) (p : Option Addr) (n : Nat) (m : Int) : Prop :=
  (p = none ∧ n = 0 ∧ m = -1) ∨ ∃ b y lp rp, p = some ⟨b, 0, none⟩ ∧ b < w.heap.size ∧ ∀ j, w.cell? ⟨b, j, none⟩ = (ndC zp y lp rp (n : Int) m)[j]?
theorem In.chd {zp : Addr} {w : World} : ∀ {t : Tr}, In zp w t → Chd zp w (pa t) (siz t) (rch t)
  | .nil, _ => Or.inl ⟨rfl, rfl, rfl⟩
  | .node b _ x l r, h => Or.inr ⟨b, x, pa l, pa r, by rw [h.1.1]; rfl, h.2.1, h.2.2.1⟩
/-- What join has summed, and how far it reaches, behind k children. -/
def jsz (nl nr : Nat) : Nat → Int
  | 0 => 1
  | 1 => 1 + (nl : Int)
  | _ => 1 + (nl : Int) + (nr : Int)
def jrc (v ml mr : Int) : Nat → Int
  | 0 => v
  | 1 => mx v ml
  | _ => mx (mx v ml) mr
theorem mx_low {a : Int} (h : 0 ≤ a) : mx a (-1) = a := by unfold mx; rw [if_neg (by omega)]
theorem Slot.bel {w w' : World} {b : Nat} {cs : Array Value} (h : Slot w b cs) (k : Bel w w') : Slot w' b cs := h.below k.below
theorem heap_set {w : World} {b : Nat} {cs : Array Value} {t : TypeId} (h : w.heap[b]? = some (.cells cs t (0, 0))) (o : Nat) (v : Value) : (w.setCell ⟨b, o, none⟩ v).heap[b]? = some (.cells (cs.setIfInBounds o v) t (0, 0)) := by
  show (w.heap.modify b _)[b]? = _
  rw [Array.getElem?_modify, if_pos rfl, h]
  rfl
theorem Slot.set {w : World} {b : Nat} {cs : Array Value} (h : Slot w b cs) (o : Nat) (v : Value) (ho : o < cs.size) : Slot (w.setCell ⟨b, o, none⟩ v) b (cs.setIfInBounds o v) := by
  refine ⟨by simpa using h.lt, fun j => ?_, fun j => by simpa using h.froz j, by obtain ⟨t, ht⟩ := h.obj; exact ⟨t, heap_set ht o v⟩⟩
  by_cases e : o = j
  · subst e
    rw [World.cell?_setCell_same w ⟨b, o, none⟩ v (u := cs[o]) (by rw [h.cell]; simp [ho])]
    simp [ho]
  · rw [World.cell?_setCell_other w ⟨b, o, none⟩ ⟨b, j, none⟩ v (fun h => e (congrArg Addr.off h)), h.cell, Array.getElem?_setIfInBounds_ne e]
theorem Slot.cong {w : World} {b : Nat} {cs cs' : Array Value} (h : Slot w b cs) (e : cs = cs') : Slot w b cs' := e ▸ h

set_option maxRecDepth 100000 in
set_option maxHeartbeats 4000000 in
theorem joinV (zp : Addr) (x : Int × Int) (lp rp : Option Addr) (nl nr : Nat) (ml mr : Int) (w : World) (hz : Zed w zp) (hl : Chd zp w lp nl ml) (hr : Chd zp w rp nr mr) (hx : 0 ≤ x.2) (hs : nl + nr < 1000000000) :
    Calls Tryd.prog 53 #[.pointer lp, entV zp x.1 x.2, .pointer rp] w fun e w' => ∃ b, e = .returned (.pointer (some ⟨b, 0, none⟩)) ∧ Slot w' b (ndC zp x lp rp (1 + (nl : Int) + (nr : Int)) (mx (mx x.2 ml) mr)) ∧ Bel w w' := by
  have hs0 : Slot ((w.alloc (.cells #[.int .u64 0, .int .u64 (low x.1), .pointer (some zp), .int .u64 0, .int .u64 (low x.2), .pointer (some zp)] 49)).alloc (.cells (ndC zp x lp rp 1 x.2) 70)) (w.heap.size + 1) (ndC zp x lp rp (jsz nl nr 0) (jrc x.2 ml mr 0)) := by
    have := Slot.new (w.alloc (.cells #[.int .u64 0, .int .u64 (low x.1), .pointer (some zp), .int .u64 0, .int .u64 (low x.2), .pointer (some zp)] 49)) (ndC zp x lp rp 1 x.2) 70
    simp only [World.size_alloc] at this
    exact this
  have hb0 : Bel w ((w.alloc (.cells #[.int .u64 0, .int .u64 (low x.1), .pointer (some zp), .int .u64 0, .int .u64 (low x.2), .pointer (some zp)] 49)).alloc (.cells (ndC zp x lp rp 1 x.2) 70)) := ((Bel.refl w).alloc _).alloc _
  have HX : Hid (0 ≤ x.2) := hx
  have HL : Hid (Chd zp w lp nl ml) := hl
  have HR : Hid (Chd zp w rp nr mr) := hr
  have HSZ : Hid (nl + nr < 1000000000) := hs
  have HZ : Hid (Zed w zp) := hz
  clear hx hl hr hs hz
  go_enter Tryd.func53, Tryd.ntmps53
  go_wp2_with fail
  go_loopw [20] (fun i wr => ∃ k : Nat, k ≤ 2 ∧ i = .int .i64 k ∧ Slot wr (w.heap.size + 1) (ndC zp x lp rp (jsz nl nr k) (jrc x.2 ml mr k)) ∧ Bel w wr) (fun i _ => 2 - (intOf i).toNat)
  case atStart => exact ⟨0, by omega, rfl, hs0, hb0⟩
  case round =>
    clear hs0 hb0
    obtain ⟨k, hk, rfl, hsl, hb⟩ := hrel
    rcases (by omega : k = 0 ∨ k = 1 ∨ k = 2) with rfl | rfl | rfl
    · rcases HL.out with ⟨rfl, rfl, rfl⟩ | ⟨b, y, lq, rq, rfl, hlt, hcell⟩
      · go_wp2_with fail
        go_roundw
        case rel => exact ⟨1, by omega, rfl, hsl.cong (by simp [jsz, jrc, mx_low HX.out]), hb⟩
        case measure => simp [intOf]
      · have HC : Hid (∀ V, Bel w V → ∀ j, V.cell? ⟨b, j, none⟩ = (ndC zp y lq rq (nl : Int) ml)[j]?) := fun V hV j => (hV.below.cell (p := ⟨b, j, none⟩) hlt).trans (hcell j)
        have n1 := hsl.cell
        have n2 := hsl.froz
        have c1 := HC.out wr hb
        clear hcell
        go_wp2_with fail
        go_region
        have hsl2 : Slot (wr.setCell ⟨w.heap.size + 1, 8, none⟩ (.int .i64 (wrap64 (jsz nl nr 0 + (nl : Int))))).drew (w.heap.size + 1) (ndC zp x (some ⟨b, 0, none⟩) rp (jsz nl nr 1) (jrc x.2 ml mr 0)) :=
          (hsl.set 8 _ (by simp)).drew.cong (by rw [show wrap64 (jsz nl nr 0 + (nl : Int)) = jsz nl nr 1 from by have := HSZ.out; rw [wrap_id] <;> simp only [jsz] <;> omega]; rfl)
        have hb2 : Bel w (wr.setCell ⟨w.heap.size + 1, 8, none⟩ (.int .i64 (wrap64 (jsz nl nr 0 + (nl : Int))))).drew := (hb.setCell (by simp) _).drew
        clear hsl n1 n2 c1 hb
        generalize (wr.setCell ⟨w.heap.size + 1, 8, none⟩ (.int .i64 (wrap64 (jsz nl nr 0 + (nl : Int))))).drew = W2 at *
        go_wp2_with fail
        have kne := kinNe W2
        have n1 : ∀ p : Kin W2, ∀ j, p.at'.cell? ⟨w.heap.size + 1, j, none⟩ = (ndC zp x (some ⟨b, 0, none⟩) rp (jsz nl nr 1) (jrc x.2 ml mr 0))[j]? := fun p => (hsl2.bel p.bel).cell
        have c1 : ∀ p : Kin W2, ∀ j, p.at'.cell? ⟨b, j, none⟩ = (ndC zp y lq rq (nl : Int) ml)[j]? := fun p => HC.out _ (hb2.trans p.bel)
        have HZ2 : Hid (∀ p : Kin W2, Zed p.at' zp) := fun p => HZ.out.bel (hb2.trans p.bel)
        refine wp_region_kin (by kernel_rfl) (by kernel_rfl) ?_
        repeat (quiet_step (first | rfl | (go_at_call 50; exact kin_of (addrCmp zp _ _ _ (HZ2.out _)))))
        refine wpQuiet_nil ?_
        intro w1 hw
        obtain ⟨p, hw⟩ := hw
        have hbe := p.bel
        rw [← hw] at hbe
        clear hw p n1 c1 HZ2 kne
        have hsl3 := hsl2.bel hbe
        have hb3 := hb2.trans hbe
        clear hsl2 hb2 hbe W2
        by_cases hlt2 : jrc x.2 ml mr 0 < ml
        · have hv : (0 : Int) < cmpZ ml (jrc x.2 ml mr 0) := by unfold cmpZ; rw [if_neg (by omega), if_pos hlt2]; decide
          have n1 := hsl3.cell
          have n2 := hsl3.froz
          have c1 := HC.out w1 hb3
          have hne : b ≠ w.heap.size + 1 := by omega
          go_wp2_with fail
          have hsl4 := (((hsl3.set 9 (.int .u64 0) (by simp)).set 10 (.int .u64 (low ml)) (by simp)).set 11 (.pointer (some zp)) (by simp)).cong (cs' := ndC zp x (some ⟨b, 0, none⟩) rp (jsz nl nr 1) ml) rfl
          have hb4 := ((hb3.setCell (p := ⟨w.heap.size + 1, 9, none⟩) (by simp) (.int .u64 0)).setCell (p := ⟨w.heap.size + 1, 10, none⟩) (by simp) (.int .u64 (low ml))).setCell (p := ⟨w.heap.size + 1, 11, none⟩) (by simp) (.pointer (some zp))
          go_roundw
          case rel => exact ⟨1, by omega, rfl, hsl4.cong (by rw [show jrc x.2 ml mr 1 = ml from if_pos hlt2]), hb4⟩
          case measure => simp [intOf]
        · have hv : ¬ (0 : Int) < cmpZ ml (jrc x.2 ml mr 0) := by unfold cmpZ; rw [if_neg hlt2]; split <;> decide
          go_wp2_with fail
          go_roundw
          case rel => exact ⟨1, by omega, rfl, hsl3.cong (by rw [show jrc x.2 ml mr 1 = jrc x.2 ml mr 0 from if_neg hlt2]), hb3⟩
          case measure => simp [intOf]
    · rcases HR.out with ⟨rfl, rfl, rfl⟩ | ⟨b, y, lq, rq, rfl, hlt, hcell⟩
      · go_wp2_with fail
        go_roundw
        case rel => exact ⟨2, by omega, rfl, hsl.cong (by simp [jsz, jrc, mx_low (mx_nn HX.out)]), hb⟩
        case measure => simp [intOf]
      · have HC : Hid (∀ V, Bel w V → ∀ j, V.cell? ⟨b, j, none⟩ = (ndC zp y lq rq (nr : Int) mr)[j]?) := fun V hV j => (hV.below.cell (p := ⟨b, j, none⟩) hlt).trans (hcell j)
        have n1 := hsl.cell
        have n2 := hsl.froz
        have c1 := HC.out wr hb
        clear hcell
        go_wp2_with fail
        go_region
        have hsl2 : Slot (wr.setCell ⟨w.heap.size + 1, 8, none⟩ (.int .i64 (wrap64 (jsz nl nr 1 + (nr : Int))))).drew (w.heap.size + 1) (ndC zp x lp (some ⟨b, 0, none⟩) (jsz nl nr 2) (jrc x.2 ml mr 1)) :=
          (hsl.set 8 _ (by simp)).drew.cong (by rw [show wrap64 (jsz nl nr 1 + (nr : Int)) = jsz nl nr 2 from by have := HSZ.out; rw [wrap_id] <;> simp only [jsz] <;> omega]; rfl)
        have hb2 : Bel w (wr.setCell ⟨w.heap.size + 1, 8, none⟩ (.int .i64 (wrap64 (jsz nl nr 1 + (nr : Int))))).drew := (hb.setCell (by simp) _).drew
        clear hsl n1 n2 c1 hb
        generalize (wr.setCell ⟨w.heap.size + 1, 8, none⟩ (.int .i64 (wrap64 (jsz nl nr 1 + (nr : Int))))).drew = W2 at *
        go_wp2_with fail
        have kne := kinNe W2
        have n1 : ∀ p : Kin W2, ∀ j, p.at'.cell? ⟨w.heap.size + 1, j, none⟩ = (ndC zp x lp (some ⟨b, 0, none⟩) (jsz nl nr 2) (jrc x.2 ml mr 1))[j]? := fun p => (hsl2.bel p.bel).cell
        have c1 : ∀ p : Kin W2, ∀ j, p.at'.cell? ⟨b, j, none⟩ = (ndC zp y lq rq (nr : Int) mr)[j]? := fun p => HC.out _ (hb2.trans p.bel)
        have HZ2 : Hid (∀ p : Kin W2, Zed p.at' zp) := fun p => HZ.out.bel (hb2.trans p.bel)
        refine wp_region_kin (by kernel_rfl) (by kernel_rfl) ?_
        repeat (quiet_step (first | rfl | (go_at_call 50; exact kin_of (addrCmp zp _ _ _ (HZ2.out _)))))
        refine wpQuiet_nil ?_
        intro w1 hw
        obtain ⟨p, hw⟩ := hw
        have hbe := p.bel
        rw [← hw] at hbe
        clear hw p n1 c1 HZ2 kne
        have hsl3 := hsl2.bel hbe
        have hb3 := hb2.trans hbe
        clear hsl2 hb2 hbe W2
        by_cases hlt2 : jrc x.2 ml mr 1 < mr
        · have hv : (0 : Int) < cmpZ mr (jrc x.2 ml mr 1) := by unfold cmpZ; rw [if_neg (by omega), if_pos hlt2]; decide
          have n1 := hsl3.cell
          have n2 := hsl3.froz
          have c1 := HC.out w1 hb3
          have hne : b ≠ w.heap.size + 1 := by omega
          go_wp2_with fail
          have hsl4 := (((hsl3.set 9 (.int .u64 0) (by simp)).set 10 (.int .u64 (low mr)) (by simp)).set 11 (.pointer (some zp)) (by simp)).cong (cs' := ndC zp x lp (some ⟨b, 0, none⟩) (jsz nl nr 2) mr) rfl
          have hb4 := ((hb3.setCell (p := ⟨w.heap.size + 1, 9, none⟩) (by simp) (.int .u64 0)).setCell (p := ⟨w.heap.size + 1, 10, none⟩) (by simp) (.int .u64 (low mr))).setCell (p := ⟨w.heap.size + 1, 11, none⟩) (by simp) (.pointer (some zp))
          go_roundw
          case rel => exact ⟨2, by omega, rfl, hsl4.cong (by rw [show jrc x.2 ml mr 2 = mr from if_pos hlt2]), hb4⟩
          case measure => simp [intOf]
        · have hv : ¬ (0 : Int) < cmpZ mr (jrc x.2 ml mr 1) := by unfold cmpZ; rw [if_neg hlt2]; split <;> decide
          go_wp2_with fail
          go_roundw
          case rel => exact ⟨2, by omega, rfl, hsl3.cong (by rw [show jrc x.2 ml mr 2 = jrc x.2 ml mr 1 from if_neg hlt2]), hb3⟩
          case measure => simp [intOf]
    · go_wp2_with fail
      go_ret
      exact ⟨w.heap.size + 1, rfl, hsl, hb⟩

theorem join (zp : Addr) (x : Int × Int) (l r : Tr) (w : World) (hz : Zed w zp) (hl : In zp w l) (hr : In zp w r) (hx : Okx x) (hs : siz l + siz r < 1000000000) :
    Calls Tryd.prog 53 #[.pointer (pa l), entV zp x.1 x.2, .pointer (pa r)] w fun e w' => ∃ b, e = .returned (.pointer (some ⟨b, 0, none⟩)) ∧ In zp w' (.node b 0 x l r) ∧ Bel w w' := by
  refine (joinV zp x (pa l) (pa r) (siz l) (siz r) (rch l) (rch r) w hz hl.chd hr.chd hx.2.2.1 hs).mono ?_
  rintro e w' ⟨b, rfl, hsl, hb⟩
  have e1 : ((siz l + siz r + 1 : Nat) : Int) = 1 + (siz l : Int) + (siz r : Int) := by omega
  refine ⟨b, rfl, ⟨⟨rfl, ?_⟩, hsl.lt, ?_, hx, hl.bel hb, hr.bel hb⟩, hb⟩
  · rw [e1]; exact hsl.obj
  · rw [e1]; exact hsl.cell
end Go.Proofs.Qxb6609544aDoor
