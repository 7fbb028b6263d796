import Derived.Test.Qxb6609544aDoorAsc
namespace Go.Proofs.Qxb6609544aDoor
open Go.RowKit
open Go.Deep (BT)

/-- The row that walk leaves, as a slice of ranges. -/
theorem owns_rs {w : World} {B n : Nat} {v : Value} {L : List (Int × Int)} (ho : w.ownsRow B 37 8 v n (flatR L)) (hL : L.length = n) : ∃ a c, v = .slice a n c ∧ Rs w a n L := by
  rcases ho.2 with ⟨h1, h2⟩ | ⟨g, cap, cur, h1, _⟩
  · subst h2; exact ⟨none, 0, h1, hL, Or.inl rfl⟩
  · subst h1; exact ⟨_, _, rfl, hL, Or.inr ⟨g, 0, rfl, owns_rngs ho⟩⟩
/-- A row that another walk does not touch. -/
theorem Fr.row {s B n : Nat} {v v' u : Value} {w w' : World} {xs : List Value} (h : Fr s v v' w w') (c : w.ownsRow B 37 8 u n xs) (hs : some s ≠ u.ownBlock) (hv : ∀ k, u.ownBlock = some k → some k ≠ v.ownBlock) : w'.ownsRow B 37 8 u n xs := by
  refine ⟨c.1, ?_⟩
  rcases c.2 with h1 | ⟨g, cap, cur, h1, h2, h3, h4⟩
  · exact Or.inl h1
  · subst h1
    have hlt : g < w.heap.size := by
      refine Nat.lt_of_not_le fun hh => ?_
      rw [Array.getElem?_eq_none hh] at h3
      cases h3
    exact Or.inr ⟨g, cap, cur, rfl, h2, (h.block g hlt (fun e => hs (by rw [e]; rfl)) (hv g rfl)).trans h3, h4⟩

set_option maxRecDepth 100000 in
set_option maxHeartbeats 2000000 in
theorem sameTree (zp : Addr) (a b : Tr) (w : World) (hz : Zed w zp) (hia : In zp w a) (hib : In zp w b) (hba : Bal a) (hbb : Bal b) (hs : Srt (lst a)) (he : lst b = lst a) (hn : siz a ≤ 1000000) (hx : ∀ x ∈ lst a, Okx x) :
    Calls Tryd.prog 18 #[.pointer (pa a), .pointer (pa b)] w fun e w' => e = .returned (.bool true) ∧ Below w.heap.size w w' := by
  have hsz : siz b = siz a := by rw [← siz_lst, ← siz_lst, he]
  have two := hz.two
  have hb0 : Bel w ((w.alloc (.cells #[.slice none 0 0] 22)).alloc (.cells #[.slice none 0 0] 22)) := ((Bel.refl _).alloc _).alloc _
  have HX0 : Hid (Slot ((w.alloc (.cells #[.slice none 0 0] 22)).alloc (.cells #[.slice none 0 0] 22)) w.heap.size #[.slice none 0 0]) := (Slot.new w #[.slice none 0 0] 22).alloc _
  have HY0 : Hid (Slot ((w.alloc (.cells #[.slice none 0 0] 22)).alloc (.cells #[.slice none 0 0] 22)) (w.heap.size + 1) #[.slice none 0 0]) := by
    have := Slot.new (w.alloc (.cells #[.slice none 0 0] 22)) #[.slice none 0 0] 22
    simp only [World.size_alloc] at this
    exact this
  have HSA : Hid (Srt (lst a)) := hs
  have HOK : Hid (∀ x ∈ lst a, Okx x) := hx
  have HT : Hid (∀ V, Below w.heap.size w V → In zp V a ∧ In zp V b ∧ Zed V zp) := fun V hV => ⟨hia.keep hV hia.und, hib.keep hV hib.und, hz.below hV⟩
  have HU : Hid (Und w.heap.size a ∧ Und w.heap.size b) := ⟨hia.und, hib.und⟩
  have hsz0 : ((w.alloc (.cells #[.slice none 0 0] 22)).alloc (.cells #[.slice none 0 0] 22)).heap.size = w.heap.size + 2 := by simp
  have HBA : Hid (Bal a) := hba
  have HBB : Hid (Bal b) := hbb
  clear hz hia hib hba hbb hs hx
  go_enter Tryd.func18, Tryd.ntmps18
  go_wp2_with fail
  generalize ((w.alloc (.cells #[.slice none 0 0] 22)).alloc (.cells #[.slice none 0 0] 22)) = W0 at *
  have hT0 := HT.out W0 hb0.below
  have W1c : Hid _ := walkT zp w.heap.size w.heap.size two (Nat.le_refl _) a W0 (.slice none 0 0) 0 [] hT0.2.2 HU.out.1 hT0.1 HBA.out HX0.out (World.ownsRow_nil _ _ _ _) (by omega) (by omega)
  refine Calls.mono W1c.out ?_
  rintro e w1 ⟨rfl, vx, hx1, ho1, hf1⟩
  clear W1c hT0
  have hnone : ∀ k, some k ≠ (Value.slice none 0 0).ownBlock := fun k => by simp [Value.ownBlock]
  have hvx : ∀ k, vx.ownBlock = some k → w.heap.size + 2 ≤ k := fun k hk => by
    rcases hf1.own with e | e
    · exact absurd (hk.symm.trans e) (hnone k)
    · have := e k hk; omega
  have hs1 := hf1.size
  have hb1 : RowKit.Below w.heap.size w w1 := hb0.below.trans (hf1.below (Nat.le_refl _) (by omega) (fun k hk => absurd hk.symm (hnone k)))
  have HX1 : Hid (∀ o, Slot (w1.alloc o) w.heap.size #[vx]) := fun o => hx1.alloc o
  have HY1 : Hid (∀ o, Slot (w1.alloc o) (w.heap.size + 1) #[.slice none 0 0]) := fun o => (hf1.slot HY0.out (by omega) (hnone _)).alloc o
  have HO1 : Hid (∀ o, (w1.alloc o).ownsRow w.heap.size 37 8 vx (siz a) (flatR (lst a))) := fun o => by
    have := World.ownsRow.alloc ho1 o
    rw [Nat.zero_add, List.nil_append] at this
    exact this
  have HB1 : Hid (∀ o, RowKit.Below w.heap.size w (w1.alloc o)) := fun o => hb1.alloc (by omega) o
  clear hx1 ho1 hf1 HX0 HY0 hb0
  go_wp2_with fail
  have hW1 : (w1.alloc (.cells (by4 (rz a)) 35)).heap.size = w1.heap.size + 1 := by simp
  have HX2 : Hid _ := HX1.out (.cells (by4 (rz a)) 35)
  have HY2 : Hid _ := HY1.out (.cells (by4 (rz a)) 35)
  have HO2 : Hid _ := HO1.out (.cells (by4 (rz a)) 35)
  have hb2 := HB1.out (.cells (by4 (rz a)) 35)
  clear HX1 HY1 HO1 HB1
  generalize w1.alloc (.cells (by4 (rz a)) 35) = W1 at *
  have hT1 := HT.out W1 hb2
  have W2c : Hid _ := walkT zp w.heap.size (w.heap.size + 1) two (by omega) b W1 (.slice none 0 0) 0 [] hT1.2.2 HU.out.2 hT1.2.1 HBB.out HY2.out (World.ownsRow_nil _ _ _ _) (by omega) (by omega)
  refine Calls.mono W2c.out ?_
  rintro e w2 ⟨rfl, vy, hy3, ho3, hf3⟩
  clear W2c hT1
  rw [Nat.zero_add, List.nil_append, hsz, he] at ho3
  have hs3 := hf3.size
  have hx3 := hf3.slot HX2.out (by omega) (hnone _)
  have hr3 := hf3.row HO2.out (fun e => by have := hvx _ e.symm; omega) (fun k _ => hnone k)
  have hb3 : RowKit.Below w.heap.size w w2 := hb2.trans (hf3.below (by omega) (by omega) (fun k hk => absurd hk.symm (hnone k)))
  clear hf3 HX2 HY2 HO2
  obtain ⟨ax, cx, hvx2, hRx⟩ := owns_rs hr3 (siz_lst a)
  obtain ⟨ay, cy, hvy2, hRy⟩ := owns_rs ho3 (siz_lst a)
  subst hvx2 hvy2
  clear hvx
  have hbA : ∀ o, RowKit.Below w2.heap.size w2 (w2.alloc o) := fun o => (RowKit.Below.refl _ _).alloc (Nat.le_refl _) o
  have HP : Hid (∀ o, Slot (w2.alloc o) w.heap.size #[.slice ax (siz a) cx] ∧ Slot (w2.alloc o) (w.heap.size + 1) #[.slice ay (siz a) cy] ∧ Rs (w2.alloc o) ax (siz a) (lst a) ∧ Rs (w2.alloc o) ay (siz a) (lst a) ∧ RowKit.Below w.heap.size w (w2.alloc o) ∧ (w2.alloc o).ownsRow w.heap.size 37 8 (.slice ax (siz a) cx) (siz a) (flatR (lst a))) := fun o =>
    ⟨hx3.alloc o, hy3.alloc o, hRx.below (hbA o), hRy.below (hbA o), hb3.alloc (by omega) o, World.ownsRow.alloc hr3 o⟩
  clear hx3 hy3 hRx hRy hr3 ho3 hb3 hbA
  have c1 := fun o => (HP.out o).1.cell
  have c2 := fun o => (HP.out o).2.1.cell
  go_wp2_with fail
  obtain ⟨p1, p2, p3, p4, p5, p6⟩ := HP.out (.cells (by4 (rz b)) 35)
  clear HP c1 c2
  generalize w2.alloc (.cells (by4 (rz b)) 35) = W2 at *
  refine Calls.mono (ascendingR w.heap.size (siz a) _ (lst a) W2 p6 (siz_lst a) (by omega) HOK.out HSA.out) ?_
  rintro e w3 ⟨rfl, hb3⟩
  have HC : Hid (∀ V, Bel w3 V → Slot V w.heap.size #[.slice ax (siz a) cx] ∧ Slot V (w.heap.size + 1) #[.slice ay (siz a) cy] ∧ Rs V ax (siz a) (lst a) ∧ Rs V ay (siz a) (lst a)) := fun V hV =>
    ⟨p1.bel (hb3.trans hV), p2.bel (hb3.trans hV), p3.below (hb3.trans hV).below, p4.below (hb3.trans hV).below⟩
  have hB3 : RowKit.Below w.heap.size w w3 := p5.trans (hb3.below.mono p5.size)
  clear p1 p2 p3 p4 p5 p6 hb3
  have c1 := (HC.out w3 (Bel.refl _)).1.cell
  have c2 := (HC.out w3 (Bel.refl _)).2.1.cell
  go_wp2_with fail
  clear c1 c2
  go_loopw [13] (fun s13 wr => ∃ k : Nat, s13 = .int .i64 k ∧ k ≤ siz a ∧ Bel w3 wr) (fun s13 _ => ((siz a : Int) - intOf s13).toNat)
  case atStart => exact ⟨0, rfl, Nat.zero_le _, Bel.refl _⟩
  case round =>
    obtain ⟨k, rfl, hk, hb⟩ := hrel
    obtain ⟨r1, r2, r3, r4⟩ := HC.out wr hb
    have c1 := r1.cell
    by_cases hlt : k < siz a
    · have hltI : (k : Int) < (siz a : Int) := by omega
      have hkl : k < (lst a).length := by rw [siz_lst]; exact hlt
      rcases r3.2 with h0 | ⟨g, off, rfl, hr⟩
      · omega
      rcases r4.2 with h0 | ⟨g', off', rfl, hr'⟩
      · omega
      have a' := fun p : Kin wr => (hr.below p.below).eight hkl rfl
      have b' := fun p : Kin wr => (hr'.below p.below).eight hkl rfl
      have d1 : ∀ p : Kin wr, p.at'.cell? ⟨w.heap.size, 0, none⟩ = some (.slice (some ⟨g, off, none⟩) (siz a) cx) := fun p => ((r1.bel p.bel).cell 0).trans rfl
      have d2 : ∀ p : Kin wr, p.at'.cell? ⟨w.heap.size + 1, 0, none⟩ = some (.slice (some ⟨g', off', none⟩) (siz a) cy) := fun p => ((r2.bel p.bel).cell 0).trans rfl
      generalize (lst a)[k] = x at a' b'
      have a0 := fun p => (a' p).1
      have a1 := fun p => (a' p).2.1
      have a2 := fun p => (a' p).2.2.1
      have a3 := fun p => (a' p).2.2.2.1
      have a4 := fun p => (a' p).2.2.2.2.1
      have a5 := fun p => (a' p).2.2.2.2.2.1
      have a6 := fun p => (a' p).2.2.2.2.2.2.1
      have a7 := fun p => (a' p).2.2.2.2.2.2.2
      have b0 := fun p => (b' p).1
      have b1 := fun p => (b' p).2.1
      have b2 := fun p => (b' p).2.2.1
      have b3 := fun p => (b' p).2.2.2.1
      have b4 := fun p => (b' p).2.2.2.2.1
      have b5 := fun p => (b' p).2.2.2.2.2.1
      have b6 := fun p => (b' p).2.2.2.2.2.2.1
      have b7 := fun p => (b' p).2.2.2.2.2.2.2
      have hT0 : (0 : Int) ≤ (k : Int) := by omega
      have hq := q37 x
      have kne := kinNe wr
      clear a' b' r1 r2 r3 r4 hr hr'
      go_wp2_with fail
      clear c1
      refine wp_region_kin (by kernel_rfl) (by kernel_rfl) ?_
      repeat (first | go_big_quiet_step (fail) | quiet_step (first | rfl))
      refine wpQuiet_nil ?_
      intro W4 hw
      obtain ⟨kk, hw⟩ := hw
      have hbe := kk.bel
      rw [← hw] at hbe
      clear hw kk kne a0 a1 a2 a3 a4 a5 a6 a7 b0 b1 b2 b3 b4 b5 b6 b7 hq d1 d2
      go_wp2_with fail
      go_roundw
      case rel => exact ⟨k + 1, by go_num, by omega, hb.trans hbe⟩
      case measure => simp [intOf]; omega
    · have hltI : ¬ (k : Int) < (siz a : Int) := by omega
      go_wp2_with fail
      go_ret
      exact ⟨rfl, hB3.trans (hb.below.mono hB3.size)⟩
end Go.Proofs.Qxb6609544aDoor
