import Derived.Test.Qxb6609544aDoorLay
import Derived.Test.Qxb6609544aDoorComp
namespace Go.Proofs.Qxb6609544aDoor
open Go.RowKit Go.Sort
open Go.Lib (compactUpTo keeps CompInv)

/-! ### The worlds that the sort passes through -/
theorem bel_grow {W w' : World} (h : Bel W w') : ∃ q os', w' = grow (W.drewN q) os' := by
  refine ⟨w'.drawn - W.drawn, w'.heap.extract W.heap.size w'.heap.size, ?_⟩
  obtain ⟨⟨h1, h2, h3, h4, h5⟩, h6⟩ := h
  have hh : w'.heap = W.heap ++ w'.heap.extract W.heap.size w'.heap.size := by
    apply Array.ext
    · simp; omega
    · intro i hi1 hi2
      by_cases hi : i < W.heap.size
      · have := h5 i hi
        rw [Array.getElem?_eq_getElem hi1, Array.getElem?_eq_getElem hi] at this
        rw [Array.getElem_append_left hi]
        exact Option.some.inj this
      · rw [Array.getElem_append_right (by omega)]
        simp only [Array.getElem_extract]
        congr 1
        omega
  have hd : w'.drawn = W.drawn + (w'.drawn - W.drawn) := by omega
  cases w'
  cases W
  simp only [grow, World.drewN] at *
  simp only [World.mk.injEq]
  exact ⟨hh, h2, hd, h1, h3⟩
theorem heap_putRowK {zp : Addr} (w : World) (g : Nat) (d : Array (Int × Int)) {k : Nat} (hk : k ≠ g) : (putRowK (encE zp) 6 w g 0 d).heap[k]? = w.heap[k]? := by
  show (w.heap.modify g _)[k]? = _
  rw [Array.getElem?_modify, if_neg (Ne.symm hk)]
theorem sort_oth {zp : Addr} (w : World) (g m : Nat) (d : Array (Int × Int)) (os : Array Obj) : Oth g w (sortWorldK (encE zp) 6 w g 0 m d os) := by
  unfold sortWorldK
  refine ⟨rfl, rfl, rfl, ?_, fun k hk hl => ?_, Nat.le_add_right _ _⟩
  · rw [size_grow, size_putRowK]; exact Nat.le_add_right _ _
  · rw [heap_grow_old _ _ (by rw [size_putRowK]; exact hl), heap_putRowK _ _ _ hk]; rfl
theorem Zed.oth {w w' : World} {zp : Addr} {g : Nat} (h : Zed w zp) (k : Oth g w w') (hg : 2 ≤ g) : Zed w' zp := by
  have h2 := h.two
  refine ⟨?_, ?_, Nat.le_trans h.two k.size⟩
  · have := k.block 0 (by omega) (by omega)
    simp only [World.cell?, this]
    exact h.z4
  · have := k.block 1 (by omega) (by omega)
    simp only [World.cell?, this]
    exact h.z0

theorem swoE : SWO (ltOf cmpE) where
  irrefl x := by unfold ltOf; rw [cmpE_eq.2 rfl]; rfl
  trans x y z h1 h2 := by simp only [ltOf, decide_eq_true_eq] at *; exact cmpE_trans h1 h2
  ntrans x y z h1 h2 := by
    simp only [ltOf, decide_eq_false_iff_not] at *
    rw [cmpE_lt] at *
    omega
theorem cmpLays (zp : Addr) (g n : Nat) (w : World) (hz : Zed w zp) (hg : 2 ≤ g) : CmpLays Tryd.prog 32 #[] (encE zp) 6 cmpE g 0 n w := by
  intro m os dk _ x y
  refine (compare zp x.1 x.2 y.1 y.2 _ (hz.oth (sort_oth w g m dk os) hg)).mono ?_
  rintro e w' ⟨rfl, hb⟩
  exact ⟨rfl, bel_grow hb⟩
theorem holds_of {zp : Addr} {w : World} {g : Nat} {cur : Array Value} {L : List (Int × Int)} (hg : w.heap[g]? = some (.cells cur 49 (0, 0))) (ht : cur.toList.take (L.length * 6) = flat zp L) : HoldsK (encE zp) 6 w g 0 L.toArray := by
  intro j hj
  rw [size_flatK] at hj
  rw [get_flatK _ _ _ _ hj]
  have hj' : j < L.length * 6 := by simpa using hj
  have h1 : (flat zp L)[j]? = (encE zp (L[j / 6]'(by omega)))[j % 6]? := by
    have := flat_get zp L (j / 6) (by omega) (j % 6) (by omega)
    rw [show j / 6 * 6 + j % 6 = j from by omega] at this
    exact this
  have h2 : cur[j]? = (flat zp L)[j]? := by
    rw [← ht, List.getElem?_take, if_pos hj']
    simp
  have h3 : (encE zp (L[j / 6]'(by omega)))[j % 6]? = some ((encE zp (L[j / 6]'(by omega)))[j % 6]'(by simp; omega)) := List.getElem?_eq_getElem _
  have h4 : L.toArray[j / 6]! = L[j / 6]'(by omega) := by simp [getElem!_pos, show j / 6 < L.length from by omega]
  constructor
  · simp only [World.cell?, hg, Nat.zero_add]
    show cur[j]? = _
    rw [h2, h1, h3, h4]
    congr 1
    show _ = (encE zp _)[j % 6]!
    rw [getElem!_pos _ _ (by simp; omega)]
  · simp [World.frozen?, hg]
theorem row_of {zp : Addr} {w : World} {g : Nat} {d : Array (Int × Int)} (hg : g < w.heap.size) (h : HoldsK (encE zp) 6 w g 0 d) : Row zp w g d := by
  refine ⟨hg, fun i hi => ⟨fun c v hv => ?_, fun c hc => ?_⟩⟩
  · have hc : c < 6 := by simpa using (List.getElem?_eq_some_iff.1 hv).1
    have := (h.cell hi hc).1
    rw [Nat.zero_add] at this
    rw [this]
    have e : (encE zp d[i]!)[c]? = some ((encE zp d[i]!)[c]!) := by rw [getElem!_pos (encE zp d[i]!) c (by simpa using hc)]; exact List.getElem?_eq_getElem _
    rw [← hv, e]
  · have := h.cell hi hc
    rw [Nat.zero_add] at this
    rw [this.1, this.2]
    exact ⟨rfl, rfl⟩

set_option maxHeartbeats 1000000 in
/-- slices.SortFunc at our entries. -/
theorem sortFunc (zp : Addr) (g cap : Nat) (d : Array (Int × Int)) (w : World) (hz : Zed w zp) (hg : 2 ≤ g) (hH : HoldsK (encE zp) 6 w g 0 d) (hb : g < w.heap.size) (hs : d.size < 4611686018427387904) :
    Calls Tryd.prog 36 #[.slice (some ⟨g, 0, none⟩) d.size cap, .func (.func 32) #[] #[]] w fun e w' => e = .returned (.tuple #[]) ∧ ∃ d', PermIn 0 d.size d d' ∧ SortedIn (ltOf cmpE) 0 d.size d' ∧ Row zp w' g d' ∧ Oth g w w' := by
  have eg : ∀ args w, (callFunc 32 args).run Tryd.prog w = .ok (.enter 32 args) w := enters_of Tryd.func32 (by kernel_rfl) rfl
  have h := AnyQ.slices_SortFunc Tryd.sortE 6 Tryd.isAgg49 Tryd.sizeOf49 (encE zp) (fun _ => rfl) (fun x v hv => by simp at hv; rcases hv with rfl | rfl | rfl | rfl | rfl | rfl <;> rfl) cmpE swoE 32 #[] g 0 cap d w eg (cmpLays zp g d.size w hz hg) hH hb hs
  change Calls Tryd.prog 36 _ _ _ at h
  refine h.mono ?_
  rintro e w' ⟨he, d', n, os, hp, hso, rfl⟩
  exact ⟨he, d', hp, hso, row_of (by have := (sort_oth (zp := zp) w g n d' os).size; omega) (holdsK_sortWorldK (encE zp) 6 w g 0 n d d' os hb hH hp.1), sort_oth w g n d' os⟩

/-! ### What is kept of a sorted row -/
theorem comp_mem {d : Array (Int × Int)} {n : Nat} : ∀ j, j < n → d[j]! ∈ compactUpTo d n := by
  intro j
  induction j with
  | zero =>
    intro hj
    unfold compactUpTo
    exact List.mem_map.2 ⟨0, List.mem_filter.2 ⟨List.mem_range.2 hj, Lib.keeps_lt_one d 0 (by omega)⟩, rfl⟩
  | succ j ih =>
    intro hj
    by_cases hk : d[j + 1]! = d[j]!
    · rw [hk]; exact ih (by omega)
    · unfold compactUpTo
      exact List.mem_map.2 ⟨j + 1, List.mem_filter.2 ⟨List.mem_range.2 hj, Lib.keeps_pos hk⟩, rfl⟩
theorem comp_mem' {d : Array (Int × Int)} {n : Nat} {x : Int × Int} (h : x ∈ compactUpTo d n) : ∃ j, j < n ∧ d[j]! = x := by
  unfold compactUpTo at h
  obtain ⟨j, hj, rfl⟩ := List.mem_map.1 h
  exact ⟨j, List.mem_range.1 (List.mem_filter.1 hj).1, rfl⟩
theorem comp_srt {d : Array (Int × Int)} {n : Nat} (hs : SortedIn (ltOf cmpE) 0 n d) : Srt (compactUpTo d n) := by
  unfold compactUpTo Srt
  rw [List.pairwise_map]
  have hr : ((List.range n).filter (keeps d)).Pairwise (fun a b => a < b) := List.Pairwise.filter _ List.pairwise_lt_range
  refine List.Pairwise.imp_of_mem ?_ hr
  intro a b ha hb hab
  have hbn : b < n := List.mem_range.1 (List.mem_filter.1 hb).1
  have hkb : keeps d b = true := (List.mem_filter.1 hb).2
  have hne : d[b]! ≠ d[b - 1]! := by
    simp only [keeps, decide_eq_true_eq] at hkb
    rcases hkb with h | h
    · omega
    · exact h
  have h1 : ¬ cmpE d[b]! d[b - 1]! < 0 := by
    have := hs (b - 1) b (by omega) (by omega) hbn
    simpa [ltOf] using this
  have h2 : cmpE d[b - 1]! d[b]! < 0 := by
    have h0 : cmpE d[b]! d[b - 1]! ≠ 0 := fun h => hne (cmpE_eq.1 h)
    exact cmpE_flip.1 (by omega)
  by_cases e : a = b - 1
  · rw [e]; exact h2
  · have h3 : ¬ cmpE d[b - 1]! d[a]! < 0 := by
      have := hs a (b - 1) (by omega) (by omega) (by omega)
      simpa [ltOf] using this
    rw [cmpE_lt] at *
    omega
theorem perm_mem {d d' : Array (Int × Int)} (h : PermIn 0 d.size d d') (x : Int × Int) : (∃ j, j < d.size ∧ d'[j]! = x) ↔ x ∈ d.toList := by
  have hp := h.2.2
  rw [← h.1] at hp
  have e1 : d'.extract 0 d'.size = d' := by simp
  have e2 : d.extract 0 d'.size = d := by rw [h.1]; simp
  rw [e1, e2] at hp
  rw [← hp.mem_iff]
  constructor
  · rintro ⟨j, hj, rfl⟩
    rw [getElem!_pos d' j (by rw [h.1]; exact hj)]
    exact Array.getElem_mem_toList _
  · intro hx
    obtain ⟨j, hj, rfl⟩ := List.mem_iff_getElem.1 hx
    have hj' : j < d'.size := by simpa using hj
    exact ⟨j, by rw [← h.1]; exact hj', by rw [getElem!_pos d' j hj']; simp⟩
end Go.Proofs.Qxb6609544aDoor
