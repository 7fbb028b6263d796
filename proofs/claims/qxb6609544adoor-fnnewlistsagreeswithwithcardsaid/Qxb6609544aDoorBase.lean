import Derived.Test.Qxb6609544aDoorRows
import Derived.WalkKit
import Derived.WalkSpells
import Derived.WalkLawsBesides
import Derived.Deep.QuietTactic
import Derived.BigQuiet
import Derived.Lib.EndianBits
import Derived.Deep.RegionHeld3
namespace Go.Proofs.Qxb6609544aDoor
open Go.RowKit

/-! ### Worlds -/
/-- A world that has kept all that lay in w, and has drawn no less. -/
structure Bel (w w' : World) : Prop where
  below : Below w.heap.size w w'
  drawn : w.drawn ≤ w'.drawn
theorem Bel.refl (w : World) : Bel w w := ⟨Below.refl _ _, Nat.le_refl _⟩
theorem Bel.trans {a b c : World} (h : Bel a b) (k : Bel b c) : Bel a c := ⟨h.below.trans (k.below.mono h.below.size), Nat.le_trans h.drawn k.drawn⟩
theorem Bel.alloc {a w : World} (h : Bel a w) (o : Obj) : Bel a (w.alloc o) := ⟨h.below.alloc h.below.size o, h.drawn⟩
theorem Bel.drew {a w : World} (h : Bel a w) : Bel a w.drew := ⟨h.below.drew, Nat.le_succ_of_le h.drawn⟩
theorem Bel.drewN {a w : World} (h : Bel a w) (n : Nat) : Bel a (w.drewN n) := ⟨below_drewN h.below n, Nat.le_add_right_of_le h.drawn⟩
theorem Bel.setCell {a w : World} (h : Bel a w) {p : Addr} (hp : a.heap.size ≤ p.block) (u : Value) : Bel a (w.setCell p u) := ⟨h.below.setCell hp u, h.drawn⟩
theorem Bel.size {a w : World} (h : Bel a w) : a.heap.size ≤ w.heap.size := h.below.size
/-- A world of the kind, as one thing. -/
structure Kin (w : World) where
  at' : World
  bel : Bel w at'
theorem Kin.below {w : World} (p : Kin w) : Below w.heap.size w p.at' := p.bel.below
theorem wp_region_kin {P : Program} {id : Nat} {Q : Exit → Act → World → Prop} {a : Act} {w : World} {l : List Oper} (hm : P.follows .mixedOrders = true) (hB : Region.lexB .any l.toArray = true)
    (h : wpQuiet P l.toArray (fun w' => ∃ p : Kin w, w' = p.at') (fun a' => ∀ w', (∃ p : Kin w, w' = p.at') → Q .normal a' w') l a) : (Code.region id l.toArray true).wp P Q a w :=
  wp_region_quiet (C := fun w' => ∃ p : Kin w, w' = p.at') hm hB ⟨⟨w.drew, (Bel.refl _).drew⟩, rfl⟩ (by simpa using h)
theorem kinNe (w : World) : Nonempty (Kin w) := ⟨⟨w, Bel.refl _⟩⟩
theorem Kin.cell {w : World} {a : Addr} {v : Value} (hb : a.block < w.heap.size) (h : w.cell? a = some v) (p : Kin w) : p.at'.cell? a = some v := (p.below.cell hb).trans h
theorem kin_of {P : Program} {f : FuncId} {args : Array Value} {w : World} {p : Kin w} {v : Value}
    (h : Calls P f args p.at' fun e w' => e = .returned v ∧ Bel p.at' w') : Calls P f args p.at' fun e w'' => e = .returned v ∧ ∃ q : Kin w, w'' = q.at' :=
  h.mono fun _ w' ⟨he, hb⟩ => ⟨he, ⟨w', p.bel.trans hb⟩, rfl⟩
theorem bel_drew {w w' : World} (h : Below w.drew.heap.size w.drew w') : Below w.heap.size w w' := (Below.refl _ w).drew.trans h
theorem cell_lt {w : World} {b o : Nat} {v : Value} (h : w.cell? ⟨b, o, none⟩ = some v) : b < w.heap.size := by
  refine Nat.lt_of_not_le fun hb => ?_
  simp [World.cell?, Array.getElem?_eq_none hb] at h
theorem bcell {W w1 : World} (hb : Below W.heap.size W w1) : (∀ b o, b < W.heap.size → w1.cell? ⟨b, o, none⟩ = W.cell? ⟨b, o, none⟩) ∧ (∀ b o, b < W.heap.size → w1.frozen? ⟨b, o, none⟩ = W.frozen? ⟨b, o, none⟩) :=
  ⟨fun b o h => hb.cell (p := ⟨b, o, none⟩) h, fun b o h => hb.frozen (p := ⟨b, o, none⟩) h⟩
theorem ret_int {k : IntKind} {a b : Int} (h : a = b) : Ending.returned (.int k a) = .returned (.int k b) := by rw [h]
theorem cell_newest (W : World) (cs : Array Value) (t : TypeId) (n : Nat) (hn : n = W.heap.size) (j : Nat) : (W.alloc (.cells cs t)).cell? ⟨n, j, none⟩ = cs[j]? := by
  subst hn; simp
theorem slot_after {w w1 : World} {cs : Array Value} {t : TypeId} (hb : Below (w.alloc (.cells cs t)).heap.size (w.alloc (.cells cs t)) w1) :
    (∀ j, w1.cell? ⟨w.heap.size, j, none⟩ = cs[j]?) ∧ (∀ j, w1.frozen? ⟨w.heap.size, j, none⟩ = false) ∧
    (∀ o j, (w1.alloc o).cell? ⟨w.heap.size, j, none⟩ = cs[j]?) ∧ (∀ o j, (w1.alloc o).frozen? ⟨w.heap.size, j, none⟩ = false) ∧ w.heap.size < w1.heap.size ∧ Below w.heap.size w w1 := by
  have hz : w.heap.size < w1.heap.size := by have := hb.size; simp at this; omega
  have c : ∀ j, w1.cell? ⟨w.heap.size, j, none⟩ = cs[j]? := fun j => (hb.cell (p := ⟨w.heap.size, j, none⟩) (by simp)).trans (by simp)
  have f : ∀ j, w1.frozen? ⟨w.heap.size, j, none⟩ = false := fun j => (hb.frozen (p := ⟨w.heap.size, j, none⟩) (by simp)).trans (by simp)
  refine ⟨c, f, fun o j => (World.cell?_alloc_lt _ _ _ hz).trans (c j), fun o j => ?_, hz, ((Below.refl _ w).alloc (Nat.le_refl _) _).trans (hb.mono (by simp))⟩
  exact (((Below.refl w1.heap.size w1).alloc (Nat.le_refl _) o).frozen (p := ⟨w.heap.size, j, none⟩) hz).trans (f j)

theorem le2 (n : Nat) : n ≤ n + 1 + 1 := by omega
/-- A block of the call's own as it stands: its cells, none frozen. -/
structure Slot (w : World) (b : Nat) (cs : Array Value) : Prop where
  lt : b < w.heap.size
  cell : ∀ j, w.cell? ⟨b, j, none⟩ = cs[j]?
  froz : ∀ j, w.frozen? ⟨b, j, none⟩ = false
  obj : ∃ t, w.heap[b]? = some (.cells cs t (0, 0))
theorem Slot.below {w w' : World} {b : Nat} {cs : Array Value} (h : Slot w b cs) (k : Below w.heap.size w w') : Slot w' b cs :=
  ⟨Nat.lt_of_lt_of_le h.lt k.size, fun j => (k.cell (p := ⟨b, j, none⟩) h.lt).trans (h.cell j), fun j => (k.frozen (p := ⟨b, j, none⟩) h.lt).trans (h.froz j), by obtain ⟨t, ht⟩ := h.obj; exact ⟨t, (k.block b h.lt).trans ht⟩⟩
theorem Slot.new (w : World) (cs : Array Value) (t : TypeId) : Slot (w.alloc (.cells cs t)) w.heap.size cs := ⟨by simp, fun j => by simp, fun j => by simp, t, by show (w.heap.push (.cells cs t (0, 0)))[w.heap.size]? = _; simp⟩
theorem Slot.alloc {w : World} {b : Nat} {cs : Array Value} (h : Slot w b cs) (o : Obj) : Slot (w.alloc o) b cs := h.below ((Below.refl _ _).alloc (Nat.le_refl _) _)
theorem Slot.drew {w : World} {b : Nat} {cs : Array Value} (h : Slot w b cs) : Slot w.drew b cs := h.below (Below.refl _ _).drew

/-! ### Addresses -/
/-- The two listed variables: z4 leads to zp, z0 is nil. -/
structure Zed (w : World) (zp : Addr) : Prop where
  z4 : w.cell? ⟨0, 0, none⟩ = some (.pointer (some zp))
  z0 : w.cell? ⟨1, 0, none⟩ = some (.pointer none)
  two : 2 ≤ w.heap.size
theorem Zed.below {w w' : World} {zp : Addr} (h : Zed w zp) (k : Below w.heap.size w w') : Zed w' zp :=
  ⟨(k.cell (p := ⟨0, 0, none⟩) (by have := h.two; show 0 < _; omega)).trans h.z4, (k.cell (p := ⟨1, 0, none⟩) (by have := h.two; show 1 < _; omega)).trans h.z0, Nat.le_trans h.two k.size⟩
theorem Zed.bel {w w' : World} {zp : Addr} (h : Zed w zp) (k : Bel w w') : Zed w' zp := h.below k.below

/-- An IPv4 address as its four bytes spell it. -/
def num4 (b0 b1 b2 b3 : Int) : Int := b0 * 16777216 + b1 * 65536 + b2 * 256 + b3
/-- The low half of the address as netip holds it. -/
def low (v : Int) : Int := 281470681743360 + v
/-- An address, an entry, as values. -/
abbrev addrV (zp : Addr) (v : Int) : Value := .agg #[.int .u64 0, .int .u64 (low v), .pointer (some zp)]
abbrev entV (zp : Addr) (f l : Int) : Value := .agg #[.int .u64 0, .int .u64 (low f), .pointer (some zp), .int .u64 0, .int .u64 (low l), .pointer (some zp)]

theorem or_comm (x y : Int) (hx : 0 ≤ x) (hx' : x < 18446744073709551616) (hy : 0 ≤ y) (hy' : y < 18446744073709551616) : bits .or .u64 x y = bits .or .u64 y x := by
  obtain ⟨a, rfl⟩ := Int.eq_ofNat_of_zero_le hx
  obtain ⟨b, rfl⟩ := Int.eq_ofNat_of_zero_le hy
  have h1 := bits_or_u64_nat a b (by omega) (by omega)
  have h2 := bits_or_u64_nat b a (by omega) (by omega)
  rw [Nat.or_comm] at h2
  exact h1.trans h2.symm

theorem low_or (b0 b1 b2 b3 : Int) (h0 : 0 ≤ b0) (h0' : b0 ≤ 255) (h1 : 0 ≤ b1) (h1' : b1 ≤ 255) (h2 : 0 ≤ b2) (h2' : b2 ≤ 255) (h3 : 0 ≤ b3) (h3' : b3 ≤ 255) :
    bits .or .u64 (bits .or .u64 (bits .or .u64 (bits .or .u64 281470681743360 (b0 * 16777216)) (b1 * 65536)) (b2 * 256)) b3 = low (num4 b0 b1 b2 b3) := by
  have e1 : bits .or .u64 281470681743360 (b0 * 16777216) = b0 * 16777216 + 281470681743360 := by rw [or_comm _ _ (by omega) (by omega) (by omega) (by omega)]; exact u64_or32 _ _ (by omega) (by omega) (by omega) (by omega) (by omega)
  have e2 : bits .or .u64 (b0 * 16777216 + 281470681743360) (b1 * 65536) = b1 * 65536 + (b0 * 16777216 + 281470681743360) := by rw [or_comm _ _ (by omega) (by omega) (by omega) (by omega)]; exact u64_or24 _ _ (by omega) (by omega) (by omega) (by omega) (by omega)
  have e3 : bits .or .u64 (b1 * 65536 + (b0 * 16777216 + 281470681743360)) (b2 * 256) = b2 * 256 + (b1 * 65536 + (b0 * 16777216 + 281470681743360)) := by rw [or_comm _ _ (by omega) (by omega) (by omega) (by omega)]; exact u64_or16 _ _ (by omega) (by omega) (by omega) (by omega) (by omega)
  have e4 : bits .or .u64 (b2 * 256 + (b1 * 65536 + (b0 * 16777216 + 281470681743360))) b3 = b3 + (b2 * 256 + (b1 * 65536 + (b0 * 16777216 + 281470681743360))) := by rw [or_comm _ _ (by omega) (by omega) (by omega) (by omega)]; exact u64_or8 _ _ (by omega) (by omega) (by omega) (by omega) (by omega)
  rw [e1, e2, e3, e4]
  unfold low num4
  omega

set_option maxHeartbeats 400000 in
theorem addrFrom4 (zp : Addr) (b0 b1 b2 b3 : Int) (w : World) (hz : Zed w zp) (h0 : 0 ≤ b0) (h0' : b0 ≤ 255) (h1 : 0 ≤ b1) (h1' : b1 ≤ 255) (h2 : 0 ≤ b2) (h2' : b2 ≤ 255) (h3 : 0 ≤ b3) (h3' : b3 ≤ 255) :
    Calls Tryd.prog 33 #[.agg #[.int .u8 b0, .int .u8 b1, .int .u8 b2, .int .u8 b3]] w fun e w' => e = .returned (addrV zp (num4 b0 b1 b2 b3)) ∧ Bel w w' := by
  have z4 := hz.z4
  have two := hz.two
  have g4 : ∀ o1 o2, ((w.alloc o1).alloc o2).cell? ⟨0, 0, none⟩ = some (.pointer (some zp)) := fun o1 o2 => (World.cell?_alloc_lt _ _ _ (by simp)).trans ((World.cell?_alloc_lt _ _ _ (by show 0 < _; omega)).trans z4)
  have HL : Hid _ := low_or b0 b1 b2 b3 h0 h0' h1 h1' h2 h2' h3 h3'
  clear hz z4
  go_enter Tryd.func33, Tryd.ntmps33
  go_wp2
  refine bodyPost_ret (v := addrV zp (num4 b0 b1 b2 b3)) ?_ rfl ⟨rfl, ?_⟩
  · have e := HL.out
    simp [results, Tryd.results33, go_sem, e]
  · exact ((Bel.refl _).alloc _).alloc _

set_option maxHeartbeats 400000 in
theorem zzentry4 (zp : Addr) (b0 b1 b2 b3 c0 c1 c2 c3 : Int) (w : World) (hz : Zed w zp) (h0 : 0 ≤ b0) (h0' : b0 ≤ 255) (h1 : 0 ≤ b1) (h1' : b1 ≤ 255) (h2 : 0 ≤ b2) (h2' : b2 ≤ 255) (h3 : 0 ≤ b3) (h3' : b3 ≤ 255)
    (g0 : 0 ≤ c0) (g0' : c0 ≤ 255) (g1 : 0 ≤ c1) (g1' : c1 ≤ 255) (g2 : 0 ≤ c2) (g2' : c2 ≤ 255) (g3 : 0 ≤ c3) (g3' : c3 ≤ 255) :
    Calls Tryd.prog 21 #[.agg #[.int .u8 b0, .int .u8 b1, .int .u8 b2, .int .u8 b3], .agg #[.int .u8 c0, .int .u8 c1, .int .u8 c2, .int .u8 c3]] w
      fun e w' => e = .returned (entV zp (num4 b0 b1 b2 b3) (num4 c0 c1 c2 c3)) ∧ Bel w w' := by
  have hz0 : Zed (((w.alloc (.cells #[.int .u8 b0, .int .u8 b1, .int .u8 b2, .int .u8 b3] 35)).alloc (.cells #[.int .u8 c0, .int .u8 c1, .int .u8 c2, .int .u8 c3] 35)).alloc (.cells #[.int .u64 0, .int .u64 0, .pointer none, .int .u64 0, .int .u64 0, .pointer none] 49)).drew zp :=
    hz.below (((((Below.refl _ w).alloc (Nat.le_refl _) _).alloc (by simp) _).alloc (by simp; omega) _).drew)
  clear hz
  have hsl : Slot (((w.alloc (.cells #[.int .u8 b0, .int .u8 b1, .int .u8 b2, .int .u8 b3] 35)).alloc (.cells #[.int .u8 c0, .int .u8 c1, .int .u8 c2, .int .u8 c3] 35)).alloc (.cells #[.int .u64 0, .int .u64 0, .pointer none, .int .u64 0, .int .u64 0, .pointer none] 49)).drew (w.heap.size + 1 + 1) #[.int .u64 0, .int .u64 0, .pointer none, .int .u64 0, .int .u64 0, .pointer none] := by
    have := (Slot.new ((w.alloc (.cells #[.int .u8 b0, .int .u8 b1, .int .u8 b2, .int .u8 b3] 35)).alloc (.cells #[.int .u8 c0, .int .u8 c1, .int .u8 c2, .int .u8 c3] 35)) #[.int .u64 0, .int .u64 0, .pointer none, .int .u64 0, .int .u64 0, .pointer none] 49).drew
    simpa using this
  have hbw : Bel w (((w.alloc (.cells #[.int .u8 b0, .int .u8 b1, .int .u8 b2, .int .u8 b3] 35)).alloc (.cells #[.int .u8 c0, .int .u8 c1, .int .u8 c2, .int .u8 c3] 35)).alloc (.cells #[.int .u64 0, .int .u64 0, .pointer none, .int .u64 0, .int .u64 0, .pointer none] 49)).drew := ((((Bel.refl w).alloc _).alloc _).alloc _).drew
  go_enter Tryd.func21, Tryd.ntmps21
  go_wp2_with fail
  go_region_with (go_at_call 33; refine (addrFrom4 zp _ _ _ _ _ (by assumption) (by assumption) (by assumption) (by assumption) (by assumption) (by assumption) (by assumption) (by assumption) (by assumption)).mono ?_; rintro e w1 ⟨rfl, hbe⟩; have hb1 := hbe.below; have hz1 : Zed w1 zp := Zed.below (by assumption) hb1; have hsl1 : Slot w1 (w.heap.size + 1 + 1) _ := Slot.below (by assumption) hb1; have hsc := hsl1.cell; have hsf := hsl1.froz; have hbw1 : Bel w w1 := Bel.trans (by assumption) hbe; clear hbe; obtain ⟨hc1, hf1⟩ := bcell hb1; have hs1 := hb1.size; try simp at hc1 hf1 hs1)
  all_goals
    go_wp2
    refine bodyPost_ret (v := entV zp (num4 b0 b1 b2 b3) (num4 c0 c1 c2 c3)) (by simp [results, Tryd.results21, go_sem, hsc]) rfl ⟨rfl, ?_⟩
    exact (((((hbw1.setCell (by exact le2 _) _).setCell (by exact le2 _) _).setCell (by exact le2 _) _).setCell (by exact le2 _) _).setCell (by exact le2 _) _).setCell (by exact le2 _) _
end Go.Proofs.Qxb6609544aDoor
