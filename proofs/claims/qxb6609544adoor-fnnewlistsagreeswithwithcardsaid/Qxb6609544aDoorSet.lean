import Derived.Test.Qxb6609544aDoorSort
import Derived.Test.Qxb6609544aDoorLists
namespace Go.Proofs.Qxb6609544aDoor
open Go.RowKit Go.Sort
open Go.Lib (compactUpTo keeps CompInv)
open Go.Deep (BT)

theorem Oth.below {g B : Nat} {w0 w w' : World} (k : Oth g w w') (h : RowKit.Below B w0 w) (hB : B ≤ g) (hs : B ≤ w.heap.size) : RowKit.Below B w0 w' :=
  ⟨k.os.trans h.os, k.tape.trans h.tape, k.output.trans h.output, Nat.le_trans h.size k.size, fun i hi => (k.block i (by omega) (by omega)).trans (h.block i hi)⟩
theorem In.below {zp : Addr} {w w' : World} (k : RowKit.Below w.heap.size w w') : ∀ {t : Tr}, In zp w t → In zp w' t
  | .nil, _ => trivial
  | .node b _ _ _ _, h => ⟨⟨h.1.1, by obtain ⟨t, ht⟩ := h.1.2; exact ⟨t, (k.block b h.2.1).trans ht⟩⟩, Nat.lt_of_lt_of_le h.2.1 k.size, fun j => (k.cell (p := ⟨b, j, none⟩) h.2.1).trans (h.2.2.1 j), h.2.2.2.1, In.below k h.2.2.2.2.1, In.below k h.2.2.2.2.2⟩
theorem Ents.below {zp : Addr} {w w' : World} {g off : Nat} {L : List (Int × Int)} (h : Ents zp w g off L) (k : RowKit.Below w.heap.size w w') : Ents zp w' g off L :=
  ⟨Nat.lt_of_lt_of_le h.1 k.size, fun i hi c hc => (k.cell (p := ⟨g, off + i * 6 + c, none⟩) h.1).trans (h.2 i hi c hc)⟩
/-- A slice of entries that reads L. -/
def Es (zp : Addr) (w : World) (a : Option Addr) (n c : Nat) (L : List (Int × Int)) : Prop :=
  L.length = n ∧ ((a = none ∧ n = 0 ∧ c = 0) ∨ ∃ g off, a = some ⟨g, off, none⟩ ∧ Ents zp w g off L)
theorem Es.below {zp : Addr} {w w' : World} {a : Option Addr} {n c : Nat} {L : List (Int × Int)} (h : Es zp w a n c L) (k : RowKit.Below w.heap.size w w') : Es zp w' a n c L := by
  refine ⟨h.1, ?_⟩
  rcases h.2 with h | ⟨g, off, h1, h2⟩
  · exact Or.inl h
  · exact Or.inr ⟨g, off, h1, h2.below k⟩
/-- What NewSet makes of L. -/
def Made (zp : Addr) (L : List (Int × Int)) (w w' : World) (t : Tr) : Prop := In zp w' t ∧ Bal t ∧ Srt (lst t) ∧ (∀ x, x ∈ lst t ↔ x ∈ L) ∧ RowKit.Below w.heap.size w w'

set_option maxHeartbeats 400000 in
theorem compact_nil (w : World) : Calls Tryd.prog 38 #[.slice none 0 0] w fun e w' => e = .returned (.slice none 0 0) ∧ w' = w := by
  go_enter Tryd.func38, Tryd.ntmps38
  go_wp2_with fail
  go_ret
  exact ⟨rfl, rfl⟩
set_option maxHeartbeats 400000 in
theorem build_nil (w : World) : Calls Tryd.prog 37 #[.slice none 0 0] w fun e w' => e = .returned (.pointer none) ∧ w' = w := by
  go_enter Tryd.func37, Tryd.ntmps37
  go_wp2_with fail
  go_ret
  exact ⟨rfl, rfl⟩

set_option maxRecDepth 100000 in
set_option maxHeartbeats 2000000 in
theorem newSet_nil (zp : Addr) (w : World) : Calls Tryd.prog 26 #[.slice none 0 0] w fun e w' => ∃ t : Tr, e = .returned (.agg #[.pointer (pa t)]) ∧ Made zp [] w w' t := by
  have c1 : Hid (∀ V, Calls Tryd.prog 35 #[.slice none 0 0] V fun e w' => e = .returned (.slice none 0 0) ∧ w' = V) := fun V => clone_nil V
  have c2 : Hid (∀ V, Calls Tryd.prog 36 #[.slice none 0 0, .func (.func 32) #[] #[]] V fun e w' => e = .returned (.tuple #[]) ∧ w' = V) := fun V => by
    have h := AnyF.slices_SortFunc_none { Tryd.sortE with } none 0 (.func (.func 32) #[] #[]) V
    exact h
  go_enter Tryd.func26, Tryd.ntmps26
  go_wp2_with fail
  refine (c1.out _).mono ?_
  rintro e w1 ⟨rfl, rfl⟩
  go_wp2_with fail
  refine (c2.out _).mono ?_
  rintro e w2 ⟨rfl, rfl⟩
  go_wp2_with fail
  refine (compact_nil _).mono ?_
  rintro e w3 ⟨rfl, rfl⟩
  go_wp2_with fail
  refine (build_nil _).mono ?_
  rintro e w4 ⟨rfl, rfl⟩
  go_wp2_with fail
  refine bodyPost_ret (v := .agg #[.pointer none]) (by simp [results, Tryd.results26, go_sem]) rfl ⟨.nil, rfl, trivial, trivial, List.Pairwise.nil, fun x => by simp [lst], ?_⟩
  exact (RowKit.Below.refl _ _).alloc (Nat.le_refl _) _

set_option maxRecDepth 100000 in
set_option maxHeartbeats 2000000 in
theorem newSet_some (zp : Addr) (g off n c : Nat) (L : List (Int × Int)) (w : World) (hz : Zed w zp) (hL : L.length = n) (hn : (n : Int) ≤ 1000000) (he : Ents zp w g off L) (hx : ∀ x ∈ L, Okx x) :
    Calls Tryd.prog 26 #[.slice (some ⟨g, off, none⟩) n c] w fun e w' => ∃ t : Tr, e = .returned (.agg #[.pointer (pa t)]) ∧ Made zp L w w' t := by
  have hb0 : RowKit.Below w.heap.size w (w.alloc (.cells #[.pointer none] 33)) := (RowKit.Below.refl _ _).alloc (Nat.le_refl _) _
  have hsl := Slot.new w #[.pointer none] 33
  have hsz : (w.alloc (.cells #[.pointer none] 33)).heap.size = w.heap.size + 1 := by simp
  have hz0 := hz.below hb0
  have he0 := he.below hb0
  have htwo := hz.two
  generalize hW : w.alloc (.cells #[.pointer none] 33) = W0 at *
  have C1 : Hid _ := clone zp g off n c L W0 hL hn he0
  go_enter Tryd.func26, Tryd.ntmps26
  go_wp2_with fail
  refine Calls.mono C1.out ?_
  rintro e w1 ⟨g1, cap, cur, rfl, hg1, hh, hcap, hmax, hcs, hct, hb1⟩
  clear C1
  rw [← hL] at hct
  have hlt1 : g1 < w1.heap.size := by
    refine Nat.lt_of_not_le fun h => ?_
    rw [Array.getElem?_eq_none h] at hh
    cases hh
  have hH := holds_of hh hct
  have C2 : Hid (Calls Tryd.prog 36 #[.slice (some ⟨g1, 0, none⟩) n cap, .func (.func 32) #[] #[]] w1 fun e w' => e = .returned (.tuple #[]) ∧ ∃ d', PermIn 0 L.toArray.size L.toArray d' ∧ SortedIn (ltOf cmpE) 0 L.toArray.size d' ∧ Row zp w' g1 d' ∧ Oth g1 w1 w') := by
    have h := sortFunc zp g1 cap L.toArray w1 (hz0.below hb1) (by omega) hH hlt1 (by simp; omega)
    have hsz' : L.toArray.size = n := by simpa using hL
    rw [hsz'] at h ⊢
    exact h
  clear hh hct hH
  go_wp2_with fail
  refine Calls.mono C2.out ?_
  rintro e w2 ⟨rfl, d, hp, hso, hR, hO1⟩
  clear C2
  have hdn : d.size = n := by rw [hp.1]; simpa using hL
  have hLs : L.toArray.size = n := by simpa using hL
  have hmem : ∀ x, x ∈ compactUpTo d n ↔ x ∈ L := fun x => by
    have h1 := perm_mem hp x
    rw [hLs] at h1
    rw [show x ∈ L ↔ x ∈ L.toArray.toList from by simp, ← h1]
    exact ⟨fun h => comp_mem' h, fun ⟨j, hj, e⟩ => e ▸ comp_mem j hj⟩
  have hsrt : Srt (compactUpTo d n) := comp_srt (by rw [hLs] at hso; exact hso)
  have hlen : (compactUpTo d n).length ≤ n := by
    unfold compactUpTo
    rw [List.length_map]
    exact Nat.le_trans (List.length_filter_le _ _) (by simp)
  have C3 : Hid _ := compact zp g1 n cap d w2 hdn hcap (by unfold maxLen at hmax; omega) hR
  go_wp2_with fail
  refine Calls.mono C3.out ?_
  rintro e w3 ⟨rfl, hO2, hrg⟩
  clear C3
  have hB2 : RowKit.Below W0.heap.size W0 w2 := hO1.below hb1 hg1 hb1.size
  have hB3 : RowKit.Below W0.heap.size W0 w3 := hO2.below hB2 hg1 hB2.size
  have hlt3 : g1 < w3.heap.size := Nat.lt_of_lt_of_le hlt1 (Nat.le_trans hO1.size hO2.size)
  have hE : Ents zp w3 g1 0 (compactUpTo d n) := ⟨hlt3, fun i hi cc hcc => by
    have h1 := hrg i _ (List.getElem?_eq_getElem hi)
    have h2 : (encE zp (compactUpTo d n)[i])[cc]? = some ((encE zp (compactUpTo d n)[i])[cc]'(by simpa using hcc)) := List.getElem?_eq_getElem _
    rw [Nat.zero_add, h1 cc _ h2, h2]⟩
  have C4 : Hid _ := build zp (compactUpTo d n).length g1 0 cap (compactUpTo d n) w3 rfl (by omega) (by omega) (hz0.below hB3) hE (fun x h => hx x ((hmem x).1 h))
  clear hrg hE hR
  go_wp2_with fail
  refine Calls.mono C4.out ?_
  rintro e w4 ⟨t, rfl, hin, hbal, hlst, hb4⟩
  clear C4
  have hB4 : RowKit.Below W0.heap.size W0 w4 := hB3.trans (hb4.below.mono hB3.size)
  have hs4 := hsl.below hB4
  have n1 := hs4.cell
  have n2 := hs4.froz
  go_wp2_with fail
  refine bodyPost_ret (v := .agg #[.pointer (pa t)]) (by simp [results, Tryd.results26, go_sem, n1]) rfl ⟨t, rfl, hin.set ((n1 11).trans rfl), hbal, by rw [hlst]; exact hsrt, fun x => by rw [hlst]; exact hmem x, ?_⟩
  exact (hb0.trans (hB4.mono (by omega))).setCell (Nat.le_refl _) _
theorem newSet (zp : Addr) (a : Option Addr) (n c : Nat) (L : List (Int × Int)) (w : World) (hz : Zed w zp) (he : Es zp w a n c L) (hn : (n : Int) ≤ 1000000) (hx : ∀ x ∈ L, Okx x) :
    Calls Tryd.prog 26 #[.slice a n c] w fun e w' => ∃ t : Tr, e = .returned (.agg #[.pointer (pa t)]) ∧ Made zp L w w' t := by
  rcases he.2 with ⟨rfl, rfl, rfl⟩ | ⟨g, off, rfl, he2⟩
  · have : L = [] := List.length_eq_zero_iff.1 he.1
    subst this
    exact newSet_nil zp w
  · exact newSet_some zp g off n c L w hz he.1 hn he2 hx

set_option maxRecDepth 100000 in
set_option maxHeartbeats 2000000 in
theorem newLists (zp : Addr) (a b : Option Addr) (n c m k : Nat) (L M : List (Int × Int)) (w : World) (hz : Zed w zp) (hL : Es zp w a n c L) (hM : Es zp w b m k M) (hn : (n : Int) ≤ 1000000) (hm : (m : Int) ≤ 1000000) (hxL : ∀ x ∈ L, Okx x) (hxM : ∀ x ∈ M, Okx x) :
    Calls Tryd.prog 9 #[.slice a n c, .slice b m k] w fun e w' => ∃ lb t s, e = .returned (.pointer (some ⟨lb, 0, none⟩)) ∧ Slot w' lb #[.pointer (pa t), .pointer (pa s)] ∧ Made zp L w w' t ∧ Made zp M w w' s := by
  have C1 : Hid _ := newSet zp a n c L w hz hL hn hxL
  have C2 : Hid (∀ V, RowKit.Below w.heap.size w V → Calls Tryd.prog 26 #[.slice b m k] V fun e w' => ∃ t : Tr, e = .returned (.agg #[.pointer (pa t)]) ∧ Made zp M V w' t) := fun V hV => newSet zp b m k M V (hz.below hV) (hM.below hV) hm hxM
  clear hz hL hM hn hm hxL hxM
  go_enter Tryd.func9, Tryd.ntmps9
  go_wp2_with fail
  refine Calls.mono C1.out ?_
  rintro e w1 ⟨t, rfl, t1, t2, t3, t4, t5⟩
  go_wp2_with fail
  refine Calls.mono (C2.out w1 t5) ?_
  rintro e w2 ⟨s, rfl, s1, s2, s3, s4, s5⟩
  go_wp2_with fail
  go_ret
  have hb : RowKit.Below w2.heap.size w2 (w2.alloc (.cells #[.pointer (pa t), .pointer (pa s)] 59)) := (RowKit.Below.refl _ _).alloc (Nat.le_refl _) _
  have h2 : RowKit.Below w.heap.size w w2 := t5.trans (s5.mono t5.size)
  exact ⟨w2.heap.size, t, s, rfl, Slot.new w2 _ 59, ⟨(t1.below s5).below hb, t2, t3, t4, h2.trans (hb.mono h2.size)⟩, ⟨s1.below hb, s2, s3, s4, h2.trans (hb.mono h2.size)⟩⟩
end Go.Proofs.Qxb6609544aDoor
