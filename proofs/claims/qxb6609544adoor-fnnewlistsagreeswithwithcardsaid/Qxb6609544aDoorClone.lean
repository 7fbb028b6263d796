import Derived.Test.Qxb6609544aDoorBuild
import Derived.Laws.AppendOwn
import Derived.OwnWalk
import Derived.Lib.Walk
import Derived.Lib.SliceRun
namespace Go.Proofs.Qxb6609544aDoor
open Go.RowKit
open Go.Deep (BT)

/-- The cells of a list of entries. -/
def flat (zp : Addr) (L : List (Int × Int)) : List Value := L.flatMap (encE zp)
theorem flat_len (zp : Addr) : ∀ L, (flat zp L).length = L.length * 6
  | [] => rfl
  | x :: L => by
    have := flat_len zp L
    simp only [flat, List.flatMap_cons, List.length_append, List.length_cons] at *
    rw [this]; simp; omega
theorem flat_get (zp : Addr) : ∀ (L : List (Int × Int)) (i : Nat) (h : i < L.length) (c : Nat), c < 6 → (flat zp L)[i * 6 + c]? = (encE zp L[i])[c]?
  | x :: L, 0, _, c, hc => by
    simp only [flat, List.flatMap_cons, Nat.zero_mul, Nat.zero_add, List.getElem_cons_zero]
    rw [List.getElem?_append_left (by simpa using hc)]
  | x :: L, i + 1, h, c, hc => by
    have ih := flat_get zp L i (by simpa using h) c hc
    simp only [flat, List.flatMap_cons, List.getElem_cons_succ] at *
    rw [List.getElem?_append_right (by simp; omega), ← ih]
    congr 1
    simp; omega
theorem flat_one (zp : Addr) (L : List (Int × Int)) : ∀ u ∈ flat zp L, u.oneCell' = true := by
  intro u hu
  simp only [flat, List.mem_flatMap] at hu
  obtain ⟨x, _, hu⟩ := hu
  simp at hu
  rcases hu with rfl | rfl | rfl | rfl | rfl | rfl <;> rfl
/-- Every cell of the row, by its place. -/
theorem Ents.flat {zp : Addr} {w : World} {g off : Nat} {L : List (Int × Int)} (h : Ents zp w g off L) : ∀ j u, (flat zp L)[j]? = some u → w.cell? ⟨g, off + j, none⟩ = some u := by
  intro j u hj
  have hl : j < L.length * 6 := by rw [← flat_len zp]; exact (List.getElem?_eq_some_iff.1 hj).1
  have h1 := h.2 (j / 6) (by omega) (j % 6) (by omega)
  have h2 := flat_get zp L (j / 6) (by omega) (j % 6) (by omega)
  rw [show j / 6 * 6 + j % 6 = j from by omega] at h2
  rw [show off + j / 6 * 6 + j % 6 = off + j from by omega] at h1
  rw [h1, ← h2, hj]
theorem Ents.of_flat {zp : Addr} {w : World} {g off : Nat} {L : List (Int × Int)} (hg : g < w.heap.size) (h : ∀ j u, (Qxb6609544aDoor.flat zp L)[j]? = some u → w.cell? ⟨g, off + j, none⟩ = some u) : Ents zp w g off L :=
  ⟨hg, fun i hi c hc => by
    have h2 := flat_get zp L i hi c hc
    have h3 : ∃ u, (encE zp L[i])[c]? = some u := ⟨_, List.getElem?_eq_getElem (by simpa using hc)⟩
    obtain ⟨u, hu⟩ := h3
    rw [hu] at h2 ⊢
    rw [show off + i * 6 + c = off + (i * 6 + c) from by omega]
    exact h _ _ h2⟩
theorem info49 : (Tryd.prog.info? 49).map (fun i => (i.zero, i.size, i.bytes)) = some (some (.agg #[.int .u64 0, .int .u64 0, .pointer none, .int .u64 0, .int .u64 0, .pointer none]), 6, 48) := by kernel_rfl
theorem und27 : Tryd.prog.underlying 27 = some (.slice 49) := Tryd.underlying27

set_option maxRecDepth 100000 in
set_option maxHeartbeats 2000000 in
theorem clone (zp : Addr) (g off n c : Nat) (L : List (Int × Int)) (w : World) (hL : L.length = n) (hn : (n : Int) ≤ 1000000) (he : Ents zp w g off L) :
    Calls Tryd.prog 35 #[.slice (some ⟨g, off, none⟩) n c] w fun e w' => ∃ g' cap cur, e = .returned (.slice (some ⟨g', 0, none⟩) n cap) ∧ w.heap.size ≤ g' ∧ w'.heap[g']? = some (.cells cur 49 (0, 0)) ∧ n ≤ cap ∧ cap ≤ maxLen ∧ cur.size = cap * 6 ∧ cur.toList.take (n * 6) = flat zp L ∧ Below w.heap.size w w' := by
  obtain ⟨i0, hi, hz0, hz1, hz2⟩ := info_parts info49
  have q27 : ∀ (w : World) (a : Option Addr) (n c n' c' : Nat), (binOp .eql 27 (.slice a n c) (.slice none n' c')).run Tryd.prog w = .ok (.bool a.isNone) w := fun w a n c n' c' => Lib.run_eql_slice_nil w _ _ a n c n' c' und27
  have A : Hid (Ents zp w g off L) := he
  have HLn : Hid (L.length = n ∧ n ≤ 1000000) := ⟨hL, by omega⟩
  clear he hL hn
  go_enter Tryd.func35, Tryd.ntmps35
  go_wp2_with (at_builtin; refine wpList_append_own _ rfl _ _ 27 rfl w.heap.size 49 i0 _ 6 48 und27 hi hz0 hz1 hz2 rfl (by decide) _ _ _ rfl (World.ownsRow_made w #[] 0 (Nat.le_refl _) (Nat.zero_le _) rfl) ⟨g, off, none⟩ n c (flat zp L) rfl ?qc1 ?qc2 ?qc3 ?qc4 ?qc5 ?qc6 ?_)
  case qc1 => rw [flat_len, HLn.out.1]
  case qc2 =>
    intro j u hj
    rw [Addr.add_lit]
    exact Lib.cell?_alloc_some _ (A.out.flat j u hj)
  case qc3 => exact flat_one zp L
  case qc4 => have := HLn.out.2; unfold maxLen; omega
  case qc5 => have := HLn.out.2; omega
  case qc6 => simp
  intro v' w1 hown hgrow hnil
  rcases hown.2 with ⟨h1, h2⟩ | ⟨g', cap, cur, rfl, hb, hg, hc, hm, hs, ht⟩
  · exact absurd h1 hnil
  have hbel : Below w.heap.size w w1 := ((Below.refl _ w).alloc (Nat.le_refl _) _).grown hgrow (by simp) (by intro k hk; simp [Value.ownBlock] at hk; omega)
  clear hown hgrow hnil
  go_wp2
  go_ret
  exact ⟨g', cap, cur, rfl, hb, hg, hc, hm, hs, ht, hbel⟩

set_option maxHeartbeats 400000 in
theorem clone_nil (w : World) : Calls Tryd.prog 35 #[.slice none 0 0] w fun e w' => e = .returned (.slice none 0 0) ∧ w' = w := by
  have q27 : ∀ (w : World) (a : Option Addr) (n c n' c' : Nat), (binOp .eql 27 (.slice a n c) (.slice none n' c')).run Tryd.prog w = .ok (.bool a.isNone) w := fun w a n c n' c' => Lib.run_eql_slice_nil w _ _ a n c n' c' und27
  go_enter Tryd.func35, Tryd.ntmps35
  go_wp2
  go_ret
  exact ⟨rfl, rfl⟩
end Go.Proofs.Qxb6609544aDoor
