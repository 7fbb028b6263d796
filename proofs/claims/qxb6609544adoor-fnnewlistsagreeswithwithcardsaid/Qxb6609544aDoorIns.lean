import Derived.Test.Qxb6609544aDoorTree
import Derived.LaidEqlPtr
namespace Go.Proofs.Qxb6609544aDoor
open Go.RowKit
open Go.Deep (BT)

/-! ### The order, and insertion into a sorted list -/
theorem cmpE_lt {x y : Int × Int} : cmpE x y < 0 ↔ x.1 < y.1 ∨ (x.1 = y.1 ∧ x.2 < y.2) := by
  simp only [cmpE, orZ, cmpZ]
  repeat' split
  all_goals omega
theorem cmpE_gt {x y : Int × Int} : 0 < cmpE x y ↔ y.1 < x.1 ∨ (y.1 = x.1 ∧ y.2 < x.2) := by
  simp only [cmpE, orZ, cmpZ]
  repeat' split
  all_goals omega
theorem cmpE_eq {x y : Int × Int} : cmpE x y = 0 ↔ x = y := by
  rw [Prod.ext_iff]
  simp only [cmpE, orZ, cmpZ]
  repeat' split
  all_goals omega
theorem cmpE_flip {x y : Int × Int} : 0 < cmpE x y ↔ cmpE y x < 0 := by rw [cmpE_gt, cmpE_lt]
theorem cmpE_trans {x y z : Int × Int} (h1 : cmpE x y < 0) (h2 : cmpE y z < 0) : cmpE x z < 0 := by
  rw [cmpE_lt] at *; omega
def insE (x : Int × Int) : List (Int × Int) → List (Int × Int)
  | [] => [x]
  | y :: ys => if cmpE x y < 0 then x :: y :: ys else if cmpE x y = 0 then y :: ys else y :: insE x ys
def Srt (L : List (Int × Int)) : Prop := L.Pairwise fun a b => cmpE a b < 0
theorem insE_left {x y : Int × Int} (h : cmpE x y < 0) (R : List (Int × Int)) : ∀ L, insE x (L ++ y :: R) = insE x L ++ y :: R
  | [] => by simp [insE, h]
  | a :: L => by
    have ih := insE_left h R L
    simp only [List.cons_append, insE]
    repeat' split
    all_goals simp [ih]
theorem insE_right {x y : Int × Int} (h : 0 < cmpE x y) (R : List (Int × Int)) : ∀ L, (∀ a ∈ L, 0 < cmpE x a) → insE x (L ++ y :: R) = L ++ y :: insE x R
  | [], _ => by
    simp only [List.nil_append, insE]
    rw [if_neg (by omega), if_neg (by omega)]
  | a :: L, hL => by
    have ih := insE_right h R L (fun b hb => hL b (by simp [hb]))
    have ha := hL a (by simp)
    simp only [List.cons_append, insE]
    rw [if_neg (by omega), if_neg (by omega), ih]
theorem insE_mid {x y : Int × Int} (h : cmpE x y = 0) (R : List (Int × Int)) : ∀ L, (∀ a ∈ L, 0 < cmpE x a) → insE x (L ++ y :: R) = L ++ y :: R
  | [], _ => by
    simp only [List.nil_append, insE]
    rw [if_neg (by omega), if_pos h]
  | a :: L, hL => by
    have ih := insE_mid h R L (fun b hb => hL b (by simp [hb]))
    have ha := hL a (by simp)
    simp only [List.cons_append, insE]
    rw [if_neg (by omega), if_neg (by omega), ih]
theorem insE_len (x : Int × Int) : ∀ L, L.length ≤ (insE x L).length ∧ (insE x L).length ≤ L.length + 1
  | [] => by simp [insE]
  | y :: L => by
    have ih := insE_len x L
    simp only [insE]
    repeat' split
    all_goals simp
    omega
theorem insE_mem {x a : Int × Int} : ∀ {L}, a ∈ insE x L ↔ a = x ∨ a ∈ L
  | [] => by simp [insE]
  | y :: L => by
    have ih := insE_mem (x := x) (a := a) (L := L)
    simp only [insE]
    split
    · simp
    · split
      · next h1 h2 =>
        rw [cmpE_eq] at h2
        subst h2
        simp
      · simp only [List.mem_cons, ih]
        constructor
        · rintro (h | h | h) <;> simp [h]
        · rintro (h | h | h) <;> simp [h]
theorem insE_srt {x : Int × Int} : ∀ {L}, Srt L → Srt (insE x L)
  | [], _ => by simp [insE, Srt]
  | y :: L, h => by
    have h' : (∀ a ∈ L, cmpE y a < 0) ∧ Srt L := List.pairwise_cons.1 h
    have ih := insE_srt (x := x) h'.2
    simp only [insE]
    split
    · next h1 =>
      refine List.pairwise_cons.2 ⟨?_, h⟩
      intro a ha
      rcases List.mem_cons.1 ha with rfl | ha
      · exact h1
      · exact cmpE_trans h1 (h'.1 a ha)
    · split
      · exact h
      · next h1 h2 =>
        refine List.pairwise_cons.2 ⟨?_, ih⟩
        intro a ha
        rcases insE_mem.1 ha with rfl | ha
        · exact cmpE_flip.1 (by omega)
        · exact h'.1 a ha
/-- Two sorted lists of the same members are one. -/
theorem srt_ext : ∀ {L M : List (Int × Int)}, Srt L → Srt M → (∀ a, a ∈ L ↔ a ∈ M) → L = M
  | [], [], _, _, _ => rfl
  | [], b :: M, _, _, h => absurd ((h b).2 (by simp)) (by simp)
  | a :: L, [], _, _, h => absurd ((h a).1 (by simp)) (by simp)
  | a :: L, b :: M, hl, hm, h => by
    have hl' : (∀ c ∈ L, cmpE a c < 0) ∧ Srt L := List.pairwise_cons.1 hl
    have hm' : (∀ c ∈ M, cmpE b c < 0) ∧ Srt M := List.pairwise_cons.1 hm
    have ab : a = b := by
      rcases List.mem_cons.1 ((h a).1 (by simp)) with e | e
      · exact e
      rcases List.mem_cons.1 ((h b).2 (by simp)) with f | f
      · exact f.symm
      have h1 := hm'.1 a e
      have h2 := hl'.1 b f
      have h3 := cmpE_flip.2 h1
      omega
    subst ab
    have irr : ∀ c, cmpE a c < 0 → c ≠ a := fun c hc e => by subst e; rw [cmpE_eq.2 rfl] at hc; omega
    rw [srt_ext hl'.2 hm'.2 fun c => ⟨fun hc => ?_, fun hc => ?_⟩]
    · rcases List.mem_cons.1 ((h c).1 (by simp [hc])) with e | e
      · exact absurd e (irr c (hl'.1 c hc))
      · exact e
    · rcases List.mem_cons.1 ((h c).2 (by simp [hc])) with e | e
      · exact absurd e (irr c (hm'.1 c hc))
      · exact e

/-! ### A tree's pointer tells the tree -/
theorem In.uniq {zp : Addr} {w : World} : ∀ {t t' : Tr}, In zp w t → In zp w t' → pa t = pa t' → t = t'
  | .nil, .nil, _, _, _ => rfl
  | .nil, .node .., _, _, h => absurd h (by simp [pa])
  | .node .., .nil, _, _, h => absurd h (by simp [pa])
  | .node b o x l r, .node b' o' x' l' r', h, h', e => by
    obtain ⟨rfl, rfl⟩ : b = b' ∧ o = o' := by simpa [pa] using e
    have e1 := (h.2.2.1 1).symm.trans (h'.2.2.1 1)
    have e4 := (h.2.2.1 4).symm.trans (h'.2.2.1 4)
    have e6 := (h.2.2.1 6).symm.trans (h'.2.2.1 6)
    have e7 := (h.2.2.1 7).symm.trans (h'.2.2.1 7)
    simp [low] at e1 e4 e6 e7
    have el := In.uniq h.2.2.2.2.1 h'.2.2.2.2.1 e6
    have er := In.uniq h.2.2.2.2.2 h'.2.2.2.2.2 e7
    have ex : x = x' := Prod.ext e1 e4
    rw [el, er, ex]
theorem ptr30 : Tryd.prog.underlying 30 = some (.pointer 70) := by kernel_rfl
theorem sz70 : (Tryd.prog.info? 70).map (·.size) = some 12 := by kernel_rfl
/-- '==' at the roots of two trees. -/
theorem eqlTree {zp : Addr} {w : World} {t t' : Tr} (h : In zp w t) (h' : In zp w t') : (binOp .eql 30 (.pointer (pa t)) (.pointer (pa t'))).run Tryd.prog w = .ok (.bool (decide (pa t = pa t'))) w := by
  obtain ⟨j, hj, hsz⟩ : ∃ j, Tryd.prog.info? 70 = some j ∧ j.size = 12 := by
    obtain ⟨j, h1, h2⟩ := Option.map_eq_some_iff.1 sz70
    exact ⟨j, h1, h2⟩
  cases t' with
  | nil =>
    have := run_eql_pointer_nil (P := Tryd.prog) w 30 (pa t) (by kernel_rfl)
    cases t <;> simpa [pa] using this
  | node b' o' x' l' r' =>
    cases t with
    | nil =>
      have h : ∀ d : Nat, (Op.equalIn (d + 1) 30 (.pointer none) (.pointer (some ⟨b', o', none⟩))).run Tryd.prog w = .ok false w := fun d => by
        simp [Op.equalIn, run_underlying ptr30, samePointer]
      simp only [binOp, pa]
      simp [Op.equal, Op.maxDepth, h 9999]
    | node b o x l r =>
      obtain ⟨rfl, t1, ht1⟩ := h.1
      obtain ⟨rfl, t2, ht2⟩ := h'.1
      by_cases e : b = b'
      · subst e
        simpa [pa] using run_eql_ptr_same (P := Tryd.prog) w ⟨b, 0, none⟩ ptr30 hj
      · have := run_eql_ptr_other (P := Tryd.prog) w (a := ⟨b, 0, none⟩) (b := ⟨b', 0, none⟩) ptr30 hj (by omega) (fun h => e (congrArg Addr.block h)) ht1 ht2
        simpa [pa, e] using this
end Go.Proofs.Qxb6609544aDoor
