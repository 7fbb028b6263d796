import Derived.Test.Qxb6609544aDoorWlk
import Derived.Deep.DeepCutAuto
import Derived.OneCell
import Derived.ChangeKeysEq
import Derived.Test.Qxb6609544aDoorOf
namespace Go.Proofs.Qxb6609544aDoor
open Go.RowKit
open Go.Deep (BT)

/-- The new block that is still to be filled. -/
structure Nw (W w : World) (k : Nat) : Prop where
  slot : Slot w k #[.int .u8 0, .int .u8 0, .int .u8 0, .int .u8 0, .int .u8 0, .int .u8 0, .int .u8 0, .int .u8 0]
  le : W.heap.size ≤ k
  bel : Bel W w
theorem Nw.new {W w w' : World} (h : Bel W w) (b : Bel (w.alloc (.cells #[.int .u8 0, .int .u8 0, .int .u8 0, .int .u8 0, .int .u8 0, .int .u8 0, .int .u8 0, .int .u8 0] 37)) w') : Nw W w' w.heap.size := ⟨(Slot.new w _ 37).bel b, h.size, (h.alloc _).trans b⟩
theorem Nw.newD {W w w' : World} (h : Bel W w) (b : Bel (w.alloc (.cells #[.int .u8 0, .int .u8 0, .int .u8 0, .int .u8 0, .int .u8 0, .int .u8 0, .int .u8 0, .int .u8 0] 37)).drew w') : Nw W w' w.heap.size := ⟨((Slot.new w _ 37).bel (Bel.refl _).drew).bel b, h.size, (h.alloc _).drew.trans b⟩
theorem Nw.on {W w w' : World} {k : Nat} (h : Nw W w k) (b : Bel w w') : Nw W w' k := ⟨h.slot.bel b, h.le, h.bel.trans b⟩
theorem Nw.fill {W w : World} {k : Nat} (h : Nw W w k) (x : Int × Int) : Slot ((((((((w.setCell ⟨k, 0, none⟩ (.int .u8 (x.1 / 16777216))).setCell ⟨k, 1, none⟩ (.int .u8 (x.1 / 65536 % 256))).setCell ⟨k, 2, none⟩ (.int .u8 (x.1 / 256 % 256))).setCell ⟨k, 3, none⟩ (.int .u8 (x.1 % 256))).setCell ⟨k, 4, none⟩ (.int .u8 (x.2 / 16777216))).setCell ⟨k, 5, none⟩ (.int .u8 (x.2 / 65536 % 256))).setCell ⟨k, 6, none⟩ (.int .u8 (x.2 / 256 % 256))).setCell ⟨k, 7, none⟩ (.int .u8 (x.2 % 256))) k #[.int .u8 (x.1 / 16777216), .int .u8 (x.1 / 65536 % 256), .int .u8 (x.1 / 256 % 256), .int .u8 (x.1 % 256), .int .u8 (x.2 / 16777216), .int .u8 (x.2 / 65536 % 256), .int .u8 (x.2 / 256 % 256), .int .u8 (x.2 % 256)] ∧ Bel W ((((((((w.setCell ⟨k, 0, none⟩ (.int .u8 (x.1 / 16777216))).setCell ⟨k, 1, none⟩ (.int .u8 (x.1 / 65536 % 256))).setCell ⟨k, 2, none⟩ (.int .u8 (x.1 / 256 % 256))).setCell ⟨k, 3, none⟩ (.int .u8 (x.1 % 256))).setCell ⟨k, 4, none⟩ (.int .u8 (x.2 / 16777216))).setCell ⟨k, 5, none⟩ (.int .u8 (x.2 / 65536 % 256))).setCell ⟨k, 6, none⟩ (.int .u8 (x.2 / 256 % 256))).setCell ⟨k, 7, none⟩ (.int .u8 (x.2 % 256))) := by
  refine ⟨?_, ((((((((h.bel.setCell (p := ⟨k, 0, none⟩) h.le (.int .u8 (x.1 / 16777216))).setCell (p := ⟨k, 1, none⟩) h.le (.int .u8 (x.1 / 65536 % 256))).setCell (p := ⟨k, 2, none⟩) h.le (.int .u8 (x.1 / 256 % 256))).setCell (p := ⟨k, 3, none⟩) h.le (.int .u8 (x.1 % 256))).setCell (p := ⟨k, 4, none⟩) h.le (.int .u8 (x.2 / 16777216))).setCell (p := ⟨k, 5, none⟩) h.le (.int .u8 (x.2 / 65536 % 256))).setCell (p := ⟨k, 6, none⟩) h.le (.int .u8 (x.2 / 256 % 256))).setCell (p := ⟨k, 7, none⟩) h.le (.int .u8 (x.2 % 256)))⟩
  refine Slot.cong ((((((((h.slot.set 0 (.int .u8 (x.1 / 16777216)) (by simp)).set 1 (.int .u8 (x.1 / 65536 % 256)) (by simp)).set 2 (.int .u8 (x.1 / 256 % 256)) (by simp)).set 3 (.int .u8 (x.1 % 256)) (by simp)).set 4 (.int .u8 (x.2 / 16777216)) (by simp)).set 5 (.int .u8 (x.2 / 65536 % 256)) (by simp)).set 6 (.int .u8 (x.2 / 256 % 256)) (by simp)).set 7 (.int .u8 (x.2 % 256)) (by simp)) ?_
  simp

theorem grown_slot {W w' : World} {row : Option Nat} {k : Nat} {cs : Array Value} (h : Slot W k cs) (g : W.grownBy w' row) (hk : some k ≠ row) : Slot w' k cs := by
  have e := g.block k h.lt hk
  refine ⟨Nat.lt_of_lt_of_le h.lt g.size, fun j => ?_, fun j => ?_, by rw [e]; exact h.obj⟩
  · exact (World.cell?_of_block (w := W) (w' := w') (a := ⟨k, j, none⟩) e).trans (h.cell j)
  · exact (World.frozen?_of_block (w := W) (w' := w') (a := ⟨k, j, none⟩) e).trans (h.froz j)
/-- One append to out, and its store. -/
theorem app_step {wc w4 : World} {s B m g cap : Nat} {v1 : Value} {xs ys : List Value} {o : Obj} (hs : Slot wc s #[v1]) (ho : wc.ownsRow B 37 8 v1 m xs) (hg : (wc.alloc o).drew.grownBy w4 v1.ownBlock)
    (ho4 : w4.ownsRow B 37 8 (.slice (some ⟨g, 0, none⟩) (m + 1) cap) (m + 1) ys) (hl : v1.ownBlock = some g ∨ g = wc.heap.size + 1) :
    Slot (w4.setCell ⟨s, 0, none⟩ (.slice (some ⟨g, 0, none⟩) (m + 1) cap)) s #[.slice (some ⟨g, 0, none⟩) (m + 1) cap] ∧ (w4.setCell ⟨s, 0, none⟩ (.slice (some ⟨g, 0, none⟩) (m + 1) cap)).ownsRow B 37 8 (.slice (some ⟨g, 0, none⟩) (m + 1) cap) (m + 1) ys ∧
    Fr s v1 (.slice (some ⟨g, 0, none⟩) (m + 1) cap) wc (w4.setCell ⟨s, 0, none⟩ (.slice (some ⟨g, 0, none⟩) (m + 1) cap)) := by
  have hne := owns_ne ho hs
  have hlt := hs.lt
  have hgs : g ≠ s := by
    intro e
    rcases hl with h | h
    · exact hne (by rw [h, e])
    · omega
  have hs4 : Slot w4 s #[v1] := grown_slot (hs.alloc o).drew hg hne
  refine ⟨(hs4.set 0 _ (by simp)).cong rfl, ownsRow_setCell_other ho4 (by simpa [Value.ownBlock] using hgs) _, ⟨hg.os, hg.tape, hg.output, ?_, fun k hk hks hkv => ?_, ?_⟩⟩
  · have := hg.size; simp at this ⊢; omega
  · rw [Below.heap_setCell w4 ⟨s, 0, none⟩ _ k hks, hg.block k (by simp; omega) hkv]
    exact Below.heap_alloc wc o k hk
  · rcases hl with h | h
    · exact Or.inl h.symm
    · refine Or.inr fun k hk => ?_
      simp [Value.ownBlock] at hk
      omega
theorem Slot.setO {w : World} {b c : Nat} {cs : Array Value} (h : Slot w b cs) (ne : b ≠ c) (o : Nat) (v : Value) : Slot (w.setCell ⟨c, o, none⟩ v) b cs := by
  have hh : (w.setCell ⟨c, o, none⟩ v).heap[b]? = w.heap[b]? := Below.heap_setCell w ⟨c, o, none⟩ v b ne
  refine ⟨by simpa using h.lt, fun j => ?_, fun j => by simpa using h.froz j, by rw [hh]; exact h.obj⟩
  rw [World.cell?_setCell_other w ⟨c, o, none⟩ ⟨b, j, none⟩ v (fun e => ne (congrArg Addr.block e).symm)]
  exact h.cell j
theorem rz_some {zp : Addr} {w : World} {t : Tr} (h : In zp w t) (hn : t ≠ .nil) : rz t = rch t ∧ 0 ≤ rch t ∧ ∃ a, pa t = some a := by
  cases t with
  | nil => exact absurd rfl hn
  | node b o x l r =>
    have h0 : 0 ≤ rch (.node b o x l r) := mx_nn (mx_nn h.2.2.2.1.2.2.1)
    exact ⟨if_neg (by omega), h0, _, rfl⟩
theorem cmpZ_pos {a b : Int} : decide (0 < cmpZ a b) = decide (b < a) := by
  unfold cmpZ
  by_cases h1 : a < b
  · rw [if_pos h1]; simp; omega
  · rw [if_neg h1]
    by_cases h2 : b < a
    · rw [if_pos h2]; simp [h2]
    · rw [if_neg h2]; simp; omega
/-- cmp4 at two addresses' bytes. -/
theorem cmp4_by (a b : Int) (ha : 0 ≤ a ∧ a < 4294967296) (hb : 0 ≤ b ∧ b < 4294967296) (V : World) : Calls Tryd.prog 25 #[.agg (by4 a), .agg (by4 b)] V fun e w' => e = .returned (.int .i64 (cmpZ a b)) ∧ Bel V w' := by
  have h := cmp4 _ _ _ _ _ _ _ _ V (by4_byt a ha) (by4_byt b hb)
  rw [num4_by, num4_by] at h
  exact h
theorem size5 : (Tryd.prog.info? 5).map (·.size) = some 1 := by kernel_rfl
theorem cells5 : Tryd.prog.cellsOf 5 = 1 := by kernel_rfl
theorem q35 (m : Int) (W : World) : (binOp .neq 35 (.agg (by4 m)) (.agg (by4 m))).run Tryd.prog W = .ok (.bool false) W := by
  obtain ⟨i, hi, hs⟩ := Option.map_eq_some_iff.1 size5
  rw [run_neq_struct, show (10000 : Nat) = 9999 + 1 from rfl, run_equalIn_array W 9999 _ _ Tryd.underlying35 hi, cells5]
  rw [show List.range 4 = [0, 1, 2, 3] from rfl]
  simp only [Op.eqItems]
  go_simp
theorem owns_ne4 {w : World} {B s : Nat} {v : Value} {n : Nat} {xs : List Value} {cs : Array Value} (h : w.ownsRow B 37 8 v n xs) (c : Slot w s cs) (hc : cs.size = 4) : some s ≠ v.ownBlock := by
  intro e
  rcases h.2 with ⟨rfl, _⟩ | ⟨g, cap, cur, rfl, _, h3, _, _, h5, _⟩
  · cases e
  · obtain rfl : s = g := Option.some.inj e
    obtain ⟨t, ht⟩ := c.obj
    rw [h3] at ht
    have hc2 := congrArg (fun o => match o with | some (Obj.cells c _ _) => c.size | _ => 0) ht
    simp at hc2
    omega
/-- What the walk left stands behind a store into a block of the call's own. -/
theorem Wkd.set {B s n k o : Nat} {A : List (Int × Int)} {v u : Value} {t : Tr} {w w' : World} {cs : Array Value} (h : Wkd B s n A v t w w') (c : Slot w' k cs) (hc : cs.size = 4) (hk : w.heap.size ≤ k) (hs : s < w.heap.size) : Wkd B s n A v t w (w'.setCell ⟨k, o, none⟩ u) := by
  obtain ⟨v', h1, h2, h3⟩ := h
  have hne : s ≠ k := by omega
  refine ⟨v', h1.setO hne o u, ownsRow_setCell_other h2 (fun e => owns_ne4 h2 c hc e.symm) u, ⟨h3.os, h3.tape, h3.output, by have := h3.size; simpa using this, fun i hi his hiv => ?_, h3.own⟩⟩
  rw [Below.heap_setCell w' ⟨k, o, none⟩ u i (by show i ≠ k; omega)]
  exact h3.block i hi his hiv
theorem Wkd.below {B s n : Nat} {A : List (Int × Int)} {v : Value} {t : Tr} {w w' w'' : World} (h : Wkd B s n A v t w w') (k : Below w'.heap.size w' w'') : Wkd B s n A v t w w'' := by
  obtain ⟨v', h1, h2, h3⟩ := h
  exact ⟨v', h1.below k, owns_below h2 k, h3.trans (Fr.of_below k)⟩
theorem info37 : (Tryd.prog.info? 37).map (fun i => (i.zero, i.size, i.bytes)) = some (some (.agg #[.int .u8 0, .int .u8 0, .int .u8 0, .int .u8 0, .int .u8 0, .int .u8 0, .int .u8 0, .int .u8 0]), 8, 8) := by kernel_rfl
theorem news8 (W : World) (x : Int × Int) : ∀ j u, (encR x)[j]? = some u → (W.alloc (.cells #[.int .u8 (x.1 / 16777216), .int .u8 (x.1 / 65536 % 256), .int .u8 (x.1 / 256 % 256), .int .u8 (x.1 % 256), .int .u8 (x.2 / 16777216), .int .u8 (x.2 / 65536 % 256), .int .u8 (x.2 / 256 % 256), .int .u8 (x.2 % 256)] 37)).cell? ((⟨W.heap.size, 0, none⟩ : Addr).add j) = some u := by
  intro j u hj
  rw [Addr.add_lit, Nat.zero_add, cell_newest _ _ _ _ rfl]
  rw [← hj]
  simp
theorem owns_form {w : World} {B n : Nat} {v : Value} {xs : List Value} (h : w.ownsRow B 37 8 v n xs) : ∃ a c, v = .slice a n c := by
  rcases h.2 with ⟨h1, h2⟩ | ⟨g, cap, cur, h1, _⟩
  · subst h2; exact ⟨none, 0, h1⟩
  · exact ⟨_, _, h1⟩
set_option maxRecDepth 100000 in
set_option maxHeartbeats 8000000 in
theorem walk_node (zp : Addr) (B s : Nat) (h2 : 2 ≤ B) (hsB : B ≤ s) (b : Nat) (x : Int × Int) (l r : Tr)
    (ihl : ∀ (w : World) (v : Value) (n : Nat) (A : List (Int × Int)), Zed w zp → In zp w l → Slot w s #[v] → w.ownsRow B 37 8 v n (flatR A) → n + siz l ≤ 1000000 → B ≤ w.heap.size →
      Calls Tryd.prog 27 #[.pointer (pa l), .pointer (some ⟨s, 0, none⟩)] w fun e w' => e = .returned (.tuple #[.int .i64 (siz l), .agg (by4 (rz l)), .bool true]) ∧ Wkd B s n A v l w w')
    (ihr : ∀ (w : World) (v : Value) (n : Nat) (A : List (Int × Int)), Zed w zp → In zp w r → Slot w s #[v] → w.ownsRow B 37 8 v n (flatR A) → n + siz r ≤ 1000000 → B ≤ w.heap.size →
      Calls Tryd.prog 27 #[.pointer (pa r), .pointer (some ⟨s, 0, none⟩)] w fun e w' => e = .returned (.tuple #[.int .i64 (siz r), .agg (by4 (rz r)), .bool true]) ∧ Wkd B s n A v r w w')
    (w : World) (v : Value) (n : Nat) (A : List (Int × Int)) (hz : Zed w zp) (hu : Und B (.node b 0 x l r)) (hi : In zp w (.node b 0 x l r)) (hbal : Bal (.node b 0 x l r)) (hs : Slot w s #[v]) (ho : w.ownsRow B 37 8 v n (flatR A)) (hn : n + (siz l + siz r + 1) ≤ 1000000) (hB : B ≤ w.heap.size) :
    Calls Tryd.prog 27 #[.pointer (some ⟨b, 0, none⟩), .pointer (some ⟨s, 0, none⟩)] w fun e w' => e = .returned (.tuple #[.int .i64 (siz l + siz r + 1 : Nat), .agg (by4 (rz (.node b 0 x l r))), .bool true]) ∧ Wkd B s n A v (.node b 0 x l r) w w' := by
  have hb0 : Below w.heap.size w (w.alloc (.cells #[.int .u8 0, .int .u8 0, .int .u8 0, .int .u8 0] 35)) := (Below.refl _ _).alloc (Nat.le_refl _) _
  have HRS : Hid (Slot (w.alloc (.cells #[.int .u8 0, .int .u8 0, .int .u8 0, .int .u8 0] 35)) w.heap.size #[.int .u8 0, .int .u8 0, .int .u8 0, .int .u8 0]) := Slot.new w #[.int .u8 0, .int .u8 0, .int .u8 0, .int .u8 0] 35
  have HT : Hid (∀ V, Below B w V → In zp V (.node b 0 x l r) ∧ Zed V zp) := fun V hV => ⟨hi.keep hV hu, ⟨(hV.cell (p := ⟨0, 0, none⟩) (by show 0 < B; omega)).trans hz.z4, (hV.cell (p := ⟨1, 0, none⟩) (by show 1 < B; omega)).trans hz.z0, Nat.le_trans hz.two hV.size⟩⟩
  have HC : Hid (∀ V, Below B w V → ∀ j, V.cell? ⟨b, j, none⟩ = (ndC zp x (pa l) (pa r) (siz l + siz r + 1 : Nat) (mx (mx x.2 (rch l)) (rch r)))[j]?) := fun V hV => (HT.out V hV).1.2.2.1
  have HO : Hid ((w.alloc (.cells #[.int .u8 0, .int .u8 0, .int .u8 0, .int .u8 0] 35)).ownsRow B 37 8 v n (flatR A)) := ho.alloc _
  have HS : Hid (Slot (w.alloc (.cells #[.int .u8 0, .int .u8 0, .int .u8 0, .int .u8 0] 35)) s #[v]) := hs.below hb0
  have hvs : some s ≠ v.ownBlock := owns_ne ho hs
  have hvB : ∀ k, v.ownBlock = some k → B ≤ k ∧ k < w.heap.size := ho.lt
  have hsw : s < w.heap.size := hs.lt
  have HX : Hid (Okx x) := hi.2.2.2.1
  have HN : Hid (n + (siz l + siz r + 1) ≤ 1000000) := hn
  have HBL : Hid (Bal (.node b 0 x l r)) := hbal
  have hbs : b < B := hu.1
  have hbI : RowKit.Below B w (w.alloc (.cells #[.int .u8 0, .int .u8 0, .int .u8 0, .int .u8 0] 35)) := hb0.mono hB
  have IHL : Hid _ := ihl
  have IHR : Hid _ := ihr
  clear hz hu hi hbal hs ho hn ihl ihr
  have HVS : Hid (some s ≠ v.ownBlock) := hvs
  have HVB : Hid (∀ k, v.ownBlock = some k → B ≤ k ∧ k < w.heap.size) := hvB
  clear hvs hvB
  go_enter Tryd.func27, Tryd.ntmps27
  have hsz0 : (w.alloc (.cells #[.int .u8 0, .int .u8 0, .int .u8 0, .int .u8 0] 35)).heap.size = w.heap.size + 1 := by simp
  go_wp2_with fail
  generalize w.alloc (.cells #[.int .u8 0, .int .u8 0, .int .u8 0, .int .u8 0] 35) = W0 at *
  have c0 := HC.out W0 hbI
  refine (zzleft zp b x (pa l) (pa r) _ _ W0 c0).mono ?_
  rintro e w1 ⟨rfl, rfl⟩
  go_wp2_with fail
  refine (zzright zp b x (pa l) (pa r) _ _ w1 c0).mono ?_
  rintro e w0 ⟨rfl, rfl⟩
  go_wp2_with fail
  clear c0
  refine Calls.mono (IHL.out w0 v n A (HT.out w0 hbI).2 (HT.out w0 hbI).1.2.2.2.2.1 HS.out HO.out (by have := HN.out; omega) (by omega)) ?_
  rintro e w1 ⟨rfl, v1, hs1, ho1, hf1⟩
  have HRS1 : Hid (Slot w1 w.heap.size #[.int .u8 0, .int .u8 0, .int .u8 0, .int .u8 0]) := hf1.slot HRS.out (by omega) (fun e => by have := (HVB.out _ e.symm).2; omega)
  have hB1 : RowKit.Below B w w1 := hbI.trans (hf1.below hsB (by omega) (fun k hk => (HVB.out k hk).1))
  have hw1 : w0.heap.size ≤ w1.heap.size := hf1.size
  have HF1 : Hid (Fr s v v1 w w1) := (Fr.of_below hb0).trans hf1
  have HNR1 : Hid (some w.heap.size ≠ v1.ownBlock) := fun e => by
    rcases hf1.own with h | h
    · have := (HVB.out _ (h.symm.trans e.symm)).2; omega
    · have := h _ e.symm; omega
  have HS1 : Hid (Slot w1 s #[v1]) := hs1
  have HO1 : Hid (w1.ownsRow B 37 8 v1 (n + siz l) (flatR (A ++ lst l))) := ho1
  clear hs1 ho1 hf1 HS HO HRS
  go_wp2_with fail
  have hbL : Bel w1 (w1.alloc (.cells (by4 (rz l)) 35)) := (Bel.refl _).alloc _
  have hBL : RowKit.Below B w (w1.alloc (.cells (by4 (rz l)) 35)) := hB1.trans (hbL.below.mono (by omega))
  have c1 := HC.out _ hBL
  refine (zzentry zp b x (pa l) (pa r) _ _ _ c1 (by have := hBL.size; omega)).mono ?_
  rintro e w2 ⟨rfl, hb2⟩
  clear c1
  have HLR : Hid (Slot w2 w1.heap.size (by4 (rz l))) := (Slot.new w1 (by4 (rz l)) 35).bel hb2
  have hbw2 : Bel w1 w2 := hbL.trans hb2
  clear hb2 hBL hbL
  have hbW2 : Bel w1 (w2.alloc (.cells #[.int .u64 0, .int .u64 (low x.1), .pointer (some zp), .int .u64 0, .int .u64 (low x.2), .pointer (some zp)] 49)) := hbw2.alloc _
  have HEB : Hid (Slot (w2.alloc (.cells #[.int .u64 0, .int .u64 (low x.1), .pointer (some zp), .int .u64 0, .int .u64 (low x.2), .pointer (some zp)] 49)) w2.heap.size #[.int .u64 0, .int .u64 (low x.1), .pointer (some zp), .int .u64 0, .int .u64 (low x.2), .pointer (some zp)]) := Slot.new w2 #[.int .u64 0, .int .u64 (low x.1), .pointer (some zp), .int .u64 0, .int .u64 (low x.2), .pointer (some zp)] 49
  have HLR2 : Hid (Slot (w2.alloc (.cells #[.int .u64 0, .int .u64 (low x.1), .pointer (some zp), .int .u64 0, .int .u64 (low x.2), .pointer (some zp)] 49)) w1.heap.size (by4 (rz l))) := HLR.out.alloc _
  clear HLR
  have hlw2 : w1.heap.size < w2.heap.size := HLR2.out.lt |> fun h => by simp at h; have := hbw2.size; exact Nat.lt_of_le_of_ne this (fun e => by have := HEB.out; have h1 := HLR2.out.cell 4; have h2 := this.cell 4; rw [e] at h1; rw [h1] at h2; simp at h2)
  go_upto_region 9 with fail
  generalize hW2 : w2.alloc (.cells #[.int .u64 0, .int .u64 (low x.1), .pointer (some zp), .int .u64 0, .int .u64 (low x.2), .pointer (some zp)] 49) = W2 at *
  go_cut [13] (fun s13 wx => ∃ hb, s13 = .pointer (some ⟨hb, 0, none⟩) ∧ Slot wx hb #[.int .u8 (x.1 / 16777216), .int .u8 (x.1 / 65536 % 256), .int .u8 (x.1 / 256 % 256), .int .u8 (x.1 % 256), .int .u8 (x.2 / 16777216), .int .u8 (x.2 / 65536 % 256), .int .u8 (x.2 / 256 % 256), .int .u8 (x.2 % 256)] ∧ W2.heap.size ≤ hb ∧ Bel W2 wx)
  case first =>
    have e1 : ∀ V, Bel W2 V → ∀ j, V.cell? ⟨w2.heap.size, j, none⟩ = #[Value.int .u64 0, .int .u64 (low x.1), .pointer (some zp), .int .u64 0, .int .u64 (low x.2), .pointer (some zp)][j]? := fun V hV => (HEB.out.bel hV).cell
    have HZ9 : Hid (∀ V, Bel W2 V → Zed V zp) := fun V hV => (HT.out V (hB1.trans ((hbW2.trans hV).below.mono (by omega)))).2
    go_region_held3 (fun w' => Bel W2 w') (first | with_reducible assumption | with_reducible exact (Bel.refl _).drew | with_reducible exact ((Bel.refl _).alloc _).drew | with_reducible exact Bel.alloc (by assumption) _ | with_reducible exact (hn.fill x).2) (first | (go_at_call 42; refine (zzfirst4 zp x _ (HZ9.out _ (by first | with_reducible assumption | with_reducible exact ((Bel.refl _).alloc _).drew | with_reducible exact Bel.alloc (by assumption) _)) HX.out).mono ?_; rintro e w3 ⟨rfl, hb3⟩; have hB4 : Bel W2 w3 := Bel.trans (by first | with_reducible assumption | with_reducible exact ((Bel.refl _).alloc _).drew | with_reducible exact Bel.alloc (by assumption) _) hb3; (first | (with_reducible have hn := Nw.newD (Bel.refl W2) hb3; have hn1 := hn.slot.cell; have hn2 := hn.slot.froz) | (with_reducible have hn := Nw.new (by assumption) hb3; have hn1 := hn.slot.cell; have hn2 := hn.slot.froz) | (with_reducible have hn' := Nw.on hn hb3; clear hn; have hn := hn'; have hn1 := hn.slot.cell; have hn2 := hn.slot.froz) | skip)) | (go_at_call 43; refine (zzlast4 zp x _ (HZ9.out _ (by first | with_reducible assumption | with_reducible exact ((Bel.refl _).alloc _).drew | with_reducible exact Bel.alloc (by assumption) _)) HX.out).mono ?_; rintro e w3 ⟨rfl, hb3⟩; have hB4 : Bel W2 w3 := Bel.trans (by first | with_reducible assumption | with_reducible exact ((Bel.refl _).alloc _).drew | with_reducible exact Bel.alloc (by assumption) _) hb3; (first | (with_reducible have hn := Nw.newD (Bel.refl W2) hb3; have hn1 := hn.slot.cell; have hn2 := hn.slot.froz) | (with_reducible have hn := Nw.new (by assumption) hb3; have hn1 := hn.slot.cell; have hn2 := hn.slot.froz) | (with_reducible have hn' := Nw.on hn hb3; clear hn; have hn := hn'; have hn1 := hn.slot.cell; have hn2 := hn.slot.froz) | skip)))
    all_goals
      go_wp2_with fail
      go_meet
      refine ⟨_, rfl, ?_⟩
      first
        | with_reducible exact ⟨Slot.new w3 _ 37, hB4.size, hB4.alloc _⟩
        | with_reducible exact ⟨(hn.fill x).1, hn.le, (hn.fill x).2⟩
  case rest =>
    obtain ⟨hb, rfl, hsl9, hlt9, hb9⟩ := hcut
    obtain ⟨W3, hW3⟩ : ∃ W, W = wc := ⟨_, rfl⟩
    subst hW3
    have hbc : Bel w1 W3 := hbW2.trans hb9
    have HS9 : Hid (Slot W3 s #[v1]) := HS1.out.bel hbc
    have HO9 : Hid (W3.ownsRow B 37 8 v1 (n + siz l) (flatR (A ++ lst l))) := owns_below HO1.out hbc.below
    have HRS9 : Hid (Slot W3 w.heap.size #[.int .u8 0, .int .u8 0, .int .u8 0, .int .u8 0]) := HRS1.out.bel hbc
    have HLR9 : Hid (Slot W3 w1.heap.size (by4 (rz l))) := HLR2.out.bel hb9
    have HF9 : Hid (Fr s v v1 w W3) := HF1.out.trans (Fr.of_below hbc.below)
    have HV9 : Hid (∀ k, v1.ownBlock = some k → B ≤ k ∧ k < w1.heap.size) := HO1.out.lt
    have hlw1 : w.heap.size < w1.heap.size := by omega
    have hsc : s ≠ hb := by have := hbW2.size; omega
    have hBc : RowKit.Below B w W3 := hB1.trans (hbc.below.mono (by omega))
    have hwc : w1.heap.size ≤ W3.heap.size := hbc.size
    have hhb : w1.heap.size < hb := by have := HLR2.out.lt; omega
    obtain ⟨a1, q1, hv1⟩ := owns_form HO1.out
    clear HS1 HO1 HRS1 HLR2 HF1 HEB hb9 hW2
    subst hv1
    obtain ⟨i37, hi37, hy0, hy1, hy2⟩ := info_parts info37
    have s1 := HS9.out.cell
    have s2 := HS9.out.froz
    have s3 := fun o => (HS9.out.alloc o).cell
    have r1 := hsl9.cell
    have HOD : Hid _ := World.ownsRow.drew (World.ownsRow.alloc HO9.out (.cells #[.int .u8 (x.1 / 16777216), .int .u8 (x.1 / 65536 % 256), .int .u8 (x.1 / 256 % 256), .int .u8 (x.1 % 256), .int .u8 (x.2 / 16777216), .int .u8 (x.2 / 65536 % 256), .int .u8 (x.2 / 256 % 256), .int .u8 (x.2 % 256)] 37))
    have HSA : Hid (Slot (W3.alloc (.cells #[.int .u8 (x.1 / 16777216), .int .u8 (x.1 / 65536 % 256), .int .u8 (x.1 / 256 % 256), .int .u8 (x.1 % 256), .int .u8 (x.2 / 16777216), .int .u8 (x.2 / 65536 % 256), .int .u8 (x.2 / 256 % 256), .int .u8 (x.2 % 256)] 37)).drew s #[.slice a1 (n + siz l) q1]) := (HS9.out.alloc _).drew
    have HNE : Hid (some s ≠ (Value.slice a1 (n + siz l) q1).ownBlock) := owns_ne HO9.out HS9.out
    have HNW : Hid (n + siz l + 1 ≤ maxLen ∧ (n + siz l + 1) * 8 ≤ 140737488355328) := by have := HN.out; unfold maxLen; constructor <;> omega
    go_wp2_with fail
    go_cut [] (fun wx => ∃ v2, Slot wx s #[v2] ∧ wx.ownsRow B 37 8 v2 (n + siz l + 1) (flatR (A ++ lst l) ++ encR x) ∧ Fr s (.slice a1 (n + siz l) q1) v2 W3 wx)
    case first =>
      go_region_law (refine step_append_lies _ rfl (.tmp 46) (.tmp 48) 22 rfl B 37 i37 _ 8 8 Tryd.underlying22 hi37 hy0 hy1 hy2 rfl (by decide) (.slice a1 (n + siz l) q1) (n + siz l) _ (by simp [Act.eval]) HOD.out ⟨W3.heap.size, 0, none⟩ 1 1 (encR x) (by simp [Act.eval]) rfl (fun j u hj => news8 W3 x j u hj) (encR_one x) (by decide) HNW.out.1 HNW.out.2 (by simp; omega) (W3.heap.size + 1) (by simp) ?_; intro g4 cap4 w4 ho4 hg4 hl4 hlt4; have hs4 := grown_slot HSA.out hg4 HNE.out; have t1 := hs4.cell; have t2 := hs4.froz)
      all_goals
        obtain ⟨z1, z2, z3⟩ := app_step HS9.out HO9.out hg4 ho4 hl4
        clear t1 t2
        go_wp2_with fail
        go_meet
        with_reducible exact ⟨_, z1, z2, z3⟩
    case rest =>
      obtain ⟨v2, z1, z2, z3⟩ := hcut
      obtain ⟨W5, hW5⟩ : ∃ W, W = wc := ⟨_, rfl⟩
      subst hW5
      clear s1 s2 s3 r1 HOD HSA HNE HNW hi37 hy0 hy1 hy2
      have hrs5 := z3.slot HRS9.out (by omega) HNR1.out
      have hlr5 := z3.slot HLR9.out (by omega) (fun e => by have := (HV9.out _ e.symm).2; omega)
      have hhe5 := z3.slot hsl9 (fun e => hsc e.symm) (fun e => by have := (HV9.out _ e.symm).2; omega)
      have hB5 : RowKit.Below B w W5 := hBc.trans (z3.below hsB (by omega) (fun k hk => (HV9.out k hk).1))
      have ho2 : ∀ k, k < W3.heap.size → some k ≠ (Value.slice a1 (n + siz l) q1).ownBlock → some k ≠ v2.ownBlock := fun k hk hne e => by
        rcases z3.own with h | h
        · exact hne (e.trans h)
        · have := h _ e.symm; omega
      have hn5r : some w.heap.size ≠ v2.ownBlock := ho2 _ HRS9.out.lt HNR1.out
      have hn5l : some w1.heap.size ≠ v2.ownBlock := ho2 _ HLR9.out.lt (fun e => by have := (HV9.out _ e.symm).2; omega)
      have hn5h : some hb ≠ v2.ownBlock := ho2 _ hsl9.lt (fun e => by have := (HV9.out _ e.symm).2; omega)
      rw [← flatR_app] at z2
      have CR : Hid _ := IHR.out W5 v2 (n + siz l + 1) (A ++ lst l ++ [x]) (HT.out W5 hB5).2 (HT.out W5 hB5).1.2.2.2.2.2 z1 z2 (by have := HN.out; omega) (by have := hB5.size; omega)
      have HF5 : Hid (Fr s v v2 w W5) := HF9.out.trans z3
      have hz2 := z2.lt
      clear z1 z2 z3 HRS9 HLR9 hsl9 HS9 HO9 HF9 ho2
      go_wp2_with fail
      refine Calls.mono CR.out ?_
      rintro e w6 ⟨rfl, v3, hs6, ho6, hf6⟩
      clear CR
      have HRS6 : Hid (Slot w6 w.heap.size #[.int .u8 0, .int .u8 0, .int .u8 0, .int .u8 0]) := hf6.slot hrs5 (by omega) hn5r
      have HLR6 : Hid (Slot w6 w1.heap.size (by4 (rz l))) := hf6.slot hlr5 (by omega) hn5l
      have HHE6 : Hid (Slot w6 hb #[.int .u8 (x.1 / 16777216), .int .u8 (x.1 / 65536 % 256), .int .u8 (x.1 / 256 % 256), .int .u8 (x.1 % 256), .int .u8 (x.2 / 16777216), .int .u8 (x.2 / 65536 % 256), .int .u8 (x.2 / 256 % 256), .int .u8 (x.2 % 256)]) := hf6.slot hhe5 (fun e => hsc e.symm) hn5h
      have hB6 : RowKit.Below B w w6 := hB5.trans (hf6.below hsB (by have := hB5.size; omega) (fun k hk => (hz2 k hk).1))
      have HW6 : Hid (Wkd B s n A v (.node b 0 x l r) w w6) := by
        refine ⟨v3, hs6, ?_, HF5.out.trans hf6⟩
        have e1 : n + siz (.node b 0 x l r) = n + siz l + 1 + siz r := by simp only [siz]; omega
        have e2 : A ++ lst (.node b 0 x l r) = A ++ lst l ++ [x] ++ lst r := by simp [lst]
        rw [e1, e2]
        exact ho6
      clear hs6 ho6 hf6 hrs5 hlr5 hhe5 HF5 hz2 hn5r hn5l hn5h
      have h6 := fun o => (HHE6.out.alloc o).cell
      go_upto_region 15 with fail
      clear h6
      have hb7 : Bel w6 ((w6.alloc (.cells (by4 (rz r)) 35)).alloc (.cells (by4 x.2) 35)) := ((Bel.refl _).alloc _).alloc _
      have HRE7 : Hid (Slot ((w6.alloc (.cells (by4 (rz r)) 35)).alloc (.cells (by4 x.2) 35)) (w6.heap.size + 1) (by4 x.2)) := by
        have := Slot.new (w6.alloc (.cells (by4 (rz r)) 35)) (by4 x.2) 35
        simp only [World.size_alloc] at this
        exact this
      have HRR7 : Hid (Slot ((w6.alloc (.cells (by4 (rz r)) 35)).alloc (.cells (by4 x.2) 35)) w6.heap.size (by4 (rz r))) := (Slot.new w6 (by4 (rz r)) 35).alloc _
      generalize ((w6.alloc (.cells (by4 (rz r)) 35)).alloc (.cells (by4 x.2) 35)) = W7 at *
      have hRl := rch_ok (HT.out w (RowKit.Below.refl _ _)).1.2.2.2.2.1
      have hRr := rch_ok (HT.out w (RowKit.Below.refl _ _)).1.2.2.2.2.2
      go_cut [70] (fun s70 wx => s70 = .bool (decide (x.2 < rch l)) ∧ Bel W7 wx)
      case first =>
        have l7 := (HLR6.out.bel hb7).cell
        have e7 := HRE7.out.cell
        by_cases hl0 : l = .nil
        · subst hl0
          have hpa : pa (BT.nil : Tr) = none := rfl
          go_wp2_with fail
          go_meet
          refine ⟨?_, Bel.refl _⟩
          have h0 : ¬ x.2 < rch (.nil : Tr) := by have := HX.out.2.2.1; show ¬ x.2 < -1; omega
          simp [h0]
        · obtain ⟨hrz, hr0, a7, hpa⟩ := rz_some (HT.out w (RowKit.Below.refl _ _)).1.2.2.2.2.1 hl0
          have CC : Hid (∀ V, Calls Tryd.prog 25 #[.agg (by4 (rz l)), .agg (by4 x.2)] V fun e w' => e = .returned (.int .i64 (cmpZ (rch l) x.2)) ∧ Bel V w') := fun V => by
            rw [hrz]
            exact cmp4_by (rch l) x.2 ⟨hr0, hRl.2⟩ ⟨HX.out.2.2.1, HX.out.2.2.2⟩ V
          have hq : ∀ W, (binOp .neq 30 (.pointer (pa l)) (.pointer none)).run Tryd.prog W = .ok (.bool true) W := fun W => by rw [hpa]; go_simp
          clear hrz hpa
          go_wp2_with fail
          refine (CC.out _).mono ?_
          rintro e w8 ⟨rfl, hb8⟩
          go_wp2_with fail
          go_meet
          refine ⟨?_, hb8⟩
          first
            | exact congrArg Value.bool cmpZ_pos
            | simp [cmpZ_pos]
      case rest =>
        obtain ⟨rfl, hb8⟩ := hcut
        obtain ⟨W8, hW8⟩ : ∃ W, W = wc := ⟨_, rfl⟩
        subst hW8
        have hs8 := HRE7.out.bel hb8
        have l8 := (HLR6.out.bel (hb7.trans hb8)).cell
        have e8 := hs8.cell
        have f8 := hs8.froz
        have hne8 : w1.heap.size ≠ w6.heap.size + 1 := by have := HLR6.out.lt; omega
        have hbW8 : Bel w6 W8 := hb7.trans hb8
        have HS8 : Hid (Slot W8 (w6.heap.size + 1) (by4 x.2)) := hs8
        clear hs8
        go_upto_if 70 with fail
        have HR8 : Hid (Slot W8 w6.heap.size (by4 (rz r))) := HRR7.out.bel hb8
        go_cut [] (fun wx => Slot wx (w6.heap.size + 1) (by4 (mx x.2 (rch l))) ∧ Bel w6 wx ∧ Slot wx w6.heap.size (by4 (rz r)))
        case first =>
          by_cases hc : x.2 < rch l
          · have hd : decide (x.2 < rch l) = true := by simp [hc]
            have hl0 : l ≠ .nil := fun e => by subst e; have := HX.out.2.2.1; have h' : x.2 < -1 := hc; omega
            obtain ⟨hrz, hr0, _⟩ := rz_some (HT.out w (RowKit.Below.refl _ _)).1.2.2.2.2.1 hl0
            have HRZ : Hid (mx x.2 (rch l) = rz l) := by show _ = _; rw [hrz]; exact if_pos hc
            clear hrz
            go_wp2_with fail
            go_meet
            have hg : w6.heap.size ≤ w6.heap.size + 1 := Nat.le_add_right _ _
            rw [HRZ.out]
            exact ⟨((((HS8.out.set 0 _ (by simp)).set 1 _ (by simp)).set 2 _ (by simp)).set 3 _ (by simp)).cong rfl, (((hbW8.setCell hg _).setCell hg _).setCell hg _).setCell hg _, (((HR8.out.setO (by omega) 0 _).setO (by omega) 1 _).setO (by omega) 2 _).setO (by omega) 3 _⟩
          · have hd : decide (x.2 < rch l) = false := by simp; omega
            have HRZ : Hid (mx x.2 (rch l) = x.2) := if_neg hc
            go_wp2_with fail
            go_meet
            rw [HRZ.out]
            exact ⟨HS8.out, hbW8, HR8.out⟩
        case rest =>
          obtain ⟨hs9, hb9, hr9⟩ := hcut
          obtain ⟨W9, hW9⟩ : ∃ W, W = wc := ⟨_, rfl⟩
          subst hW9
          have hm1 : 0 ≤ mx x.2 (rch l) ∧ mx x.2 (rch l) < 4294967296 := ⟨mx_nn HX.out.2.2.1, by have := HX.out.2.2.2; unfold mx; split <;> omega⟩
          generalize hM1 : mx x.2 (rch l) = m1 at *
          clear l8 e8 f8 hb7 hb8 HRE7 HRR7 HLR6 hbW8 HS8 HR8 hne8
          have HS9 : Hid (Slot W9 (w6.heap.size + 1) (by4 m1)) := hs9
          have HR9 : Hid (Slot W9 w6.heap.size (by4 (rz r))) := hr9
          clear hs9 hr9
          go_upto_region 17 with fail
          go_cut [79] (fun s79 wx => s79 = .bool (decide (m1 < rch r)) ∧ Bel W9 wx)
          case first =>
            have l7 := HR9.out.cell
            have e7 := HS9.out.cell
            by_cases hl0 : r = .nil
            · subst hl0
              have hpa : pa (BT.nil : Tr) = none := rfl
              go_wp2_with fail
              go_meet
              refine ⟨?_, Bel.refl _⟩
              have h0 : ¬ m1 < rch (.nil : Tr) := by have := hm1.1; show ¬ m1 < -1; omega
              simp [h0]
            · obtain ⟨hrz, hr0, a7, hpa⟩ := rz_some (HT.out w (RowKit.Below.refl _ _)).1.2.2.2.2.2 hl0
              have CC : Hid (∀ V, Calls Tryd.prog 25 #[.agg (by4 (rz r)), .agg (by4 m1)] V fun e w' => e = .returned (.int .i64 (cmpZ (rch r) m1)) ∧ Bel V w') := fun V => by
                rw [hrz]
                exact cmp4_by (rch r) m1 ⟨hr0, hRr.2⟩ hm1 V
              have hq : ∀ W, (binOp .neq 30 (.pointer (pa r)) (.pointer none)).run Tryd.prog W = .ok (.bool true) W := fun W => by rw [hpa]; go_simp
              clear hrz hpa
              go_wp2_with fail
              refine (CC.out _).mono ?_
              rintro e w8 ⟨rfl, hb8⟩
              go_wp2_with fail
              go_meet
              refine ⟨?_, hb8⟩
              first
                | exact congrArg Value.bool cmpZ_pos
                | simp [cmpZ_pos]
          case rest =>
            obtain ⟨rfl, hb10⟩ := hcut
            obtain ⟨W10, hW10⟩ : ∃ W, W = wc := ⟨_, rfl⟩
            subst hW10
            have HS10 : Hid (Slot W10 (w6.heap.size + 1) (by4 m1)) := HS9.out.bel hb10
            have l8 := (HR9.out.bel hb10).cell
            have e8 := HS10.out.cell
            have f8 := HS10.out.froz
            have hbW10 : Bel w6 W10 := hb9.trans hb10
            go_upto_if 79 with fail
            go_cut [] (fun wx => Slot wx (w6.heap.size + 1) (by4 (mx m1 (rch r))) ∧ Bel w6 wx)
            case first =>
              by_cases hc : m1 < rch r
              · have hd : decide (m1 < rch r) = true := by simp [hc]
                have hl0 : r ≠ .nil := fun e => by subst e; have := hm1.1; have h' : m1 < -1 := hc; omega
                obtain ⟨hrz, hr0, _⟩ := rz_some (HT.out w (RowKit.Below.refl _ _)).1.2.2.2.2.2 hl0
                have HRZ : Hid (mx m1 (rch r) = rz r) := by show _ = _; rw [hrz]; exact if_pos hc
                clear hrz
                go_wp2_with fail
                go_meet
                have hg : w6.heap.size ≤ w6.heap.size + 1 := Nat.le_add_right _ _
                rw [HRZ.out]
                exact ⟨((((HS10.out.set 0 _ (by simp)).set 1 _ (by simp)).set 2 _ (by simp)).set 3 _ (by simp)).cong rfl, (((hbW10.setCell hg _).setCell hg _).setCell hg _).setCell hg _⟩
              · have hd : decide (m1 < rch r) = false := by simp; omega
                have HRZ : Hid (mx m1 (rch r) = m1) := if_neg hc
                go_wp2_with fail
                go_meet
                rw [HRZ.out]
                exact ⟨HS10.out, hbW10⟩
            case rest =>
              obtain ⟨hs11, hb11⟩ := hcut
              obtain ⟨W11, hW11⟩ : ∃ W, W = wc := ⟨_, rfl⟩
              subst hW11
              have hM2 : mx (mx x.2 (rch l)) (rch r) = mx m1 (rch r) := by rw [hM1]
              have hm2 : 0 ≤ mx m1 (rch r) ∧ mx m1 (rch r) < 4294967296 := ⟨mx_nn hm1.1, by unfold mx; split <;> omega⟩
              have HRZ : Hid (rz (.node b 0 x l r) = mx m1 (rch r)) := by
                show mx (mx (mx x.2 (rch l)) (rch r)) 0 = _
                rw [hM2]
                exact if_neg (by omega)
              have HCC : Hid (∀ p : Kin W11, ∀ j, p.at'.cell? ⟨b, j, none⟩ = (ndC zp x (pa l) (pa r) (siz l + siz r + 1 : Nat) (mx m1 (rch r)))[j]?) := fun p => by
                have := HC.out p.at' (hB6.trans ((hb11.trans p.bel).below.mono (by have := hB6.size; omega)))
                exact this
              generalize mx m1 (rch r) = m2 at *
              have HRS11 : Hid (Slot W11 w.heap.size #[.int .u8 0, .int .u8 0, .int .u8 0, .int .u8 0]) := HRS6.out.bel hb11
              have HS11 : Hid (Slot W11 (w6.heap.size + 1) (by4 m2)) := hs11
              have hlb : b < W11.heap.size := by have := hB6.size; have := hb11.size; omega
              have HZ11 : Hid (∀ p : Kin W11, Zed p.at' zp) := fun p => (HT.out p.at' (hB6.trans ((hb11.trans p.bel).below.mono (by have := hB6.size; omega)))).2
              have C44 : Hid (∀ p : Kin W11, Calls Tryd.prog 44 #[.pointer (some ⟨b, 0, none⟩)] p.at' fun e w' => e = .returned (.int .i64 (siz l + siz r + 1 : Nat)) ∧ Bel p.at' w') := fun p => (zzsize zp b x (pa l) (pa r) _ _ p.at' (HCC.out p)).mono fun _ _ ⟨he, hw⟩ => ⟨he, hw ▸ Bel.refl _⟩
              have C45 : Hid (∀ p : Kin W11, Calls Tryd.prog 45 #[.pointer (some ⟨b, 0, none⟩)] p.at' fun e w' => e = .returned (.agg (by4 m2)) ∧ Bel p.at' w') := fun p => zzreach4 zp b x (pa l) (pa r) _ _ p.at' (HZ11.out p) (HCC.out p) (Nat.lt_of_lt_of_le hlb p.bel.size) hm2
              have z1 : (siz l : Int) ≤ 1000000 := by have := HN.out; omega
              have z2 : (siz r : Int) ≤ 1000000 := by have := HN.out; omega
              clear e8 f8 l8 hbW10 HS10 HS9 HR9 hb9 hb10 hs11
              go_wp2_with fail
              have kne := kinNe W11
              have hq35 := q35 m2
              have e11 : ∀ p : Kin W11, ∀ j, p.at'.cell? ⟨w6.heap.size + 1, j, none⟩ = (by4 m2)[j]? := fun p => (HS11.out.bel p.bel).cell
              refine wp_region_kin (by kernel_rfl) (by kernel_rfl) ?_
              repeat (first | go_big_quiet_step (first | (go_at_call 44; exact kin_of (C44.out _)) | (go_at_call 45; exact kin_of (C45.out _))) | quiet_step (first | rfl | (go_at_call 44; exact kin_of (C44.out _)) | (go_at_call 45; exact kin_of (C45.out _))))
              refine wpQuiet_nil ?_
              intro W12 hw
              obtain ⟨kk, hw⟩ := hw
              have hbe := kk.bel
              rw [← hw] at hbe
              clear hw kk kne e11 hq35
              have HS12 : Hid (Slot W12 (w6.heap.size + 1) (by4 m2)) := HS11.out.bel hbe
              have HRS12 : Hid (Slot W12 w.heap.size #[.int .u8 0, .int .u8 0, .int .u8 0, .int .u8 0]) := HRS11.out.bel hbe
              have HW12 : Hid (Wkd B s n A v (.node b 0 x l r) w W12) := HW6.out.below (hb11.trans hbe).below
              have i1 : decide ((3 : Int) * ((siz l : Int) + 1) < (siz r : Int) + 1) = false := by have := HBL.out; simp only [Bal] at this; simp; omega
              have i2 : decide ((3 : Int) * ((siz r : Int) + 1) < (siz l : Int) + 1) = false := by have := HBL.out; simp only [Bal] at this; simp; omega
              go_wp2_with fail
              have e12 := HS12.out.cell
              have r12 := HRS12.out.cell
              have f12 := HRS12.out.froz
              go_region
              go_wp2_with fail
              refine bodyPost_ret (v := .tuple #[.int .i64 ((siz l + siz r + 1 : Nat) : Int), .agg (by4 (rz (.node b 0 x l r))), .bool true]) (by rw [HRZ.out]; simp [results, Tryd.results27, go_sem, r12]) rfl ⟨rfl, ?_⟩
              have t1 := HRS12.out.set 0 (.int .u8 (m2 / 16777216)) (by simp)
              have t2 := t1.set 1 (.int .u8 (m2 / 65536 % 256)) (by simp)
              have t3 := t2.set 2 (.int .u8 (m2 / 256 % 256)) (by simp)
              exact ((((HW12.out.set (o := 0) (u := .int .u8 (m2 / 16777216)) HRS12.out rfl (Nat.le_refl _) hsw).set (o := 1) (u := .int .u8 (m2 / 65536 % 256)) t1 (by simp) (Nat.le_refl _) hsw).set (o := 2) (u := .int .u8 (m2 / 256 % 256)) t2 (by simp) (Nat.le_refl _) hsw).set (o := 3) (u := .int .u8 (m2 % 256)) t3 (by simp) (Nat.le_refl _) hsw).below (Below.refl _ _).drew
end Go.Proofs.Qxb6609544aDoor
