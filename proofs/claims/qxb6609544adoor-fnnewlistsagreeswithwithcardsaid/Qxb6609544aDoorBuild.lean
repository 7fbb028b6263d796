import Derived.Test.Qxb6609544aDoorIns
import Derived.Test.Qxb6609544aDoorBal
namespace Go.Proofs.Qxb6609544aDoor
open Go.RowKit
open Go.Deep (BT)

/-- The six cells of an entry. -/
abbrev encE (zp : Addr) (x : Int × Int) : List Value := [.int .u64 0, .int .u64 (low x.1), .pointer (some zp), .int .u64 0, .int .u64 (low x.2), .pointer (some zp)]
/-- The entries of L lie in block g from off on. -/
def Ents (zp : Addr) (w : World) (g off : Nat) (L : List (Int × Int)) : Prop :=
  g < w.heap.size ∧ ∀ i (h : i < L.length) c, c < 6 → w.cell? ⟨g, off + i * 6 + c, none⟩ = (encE zp L[i])[c]?
theorem Ents.bel {zp : Addr} {w w' : World} {g off : Nat} {L : List (Int × Int)} (h : Ents zp w g off L) (k : Bel w w') : Ents zp w' g off L :=
  ⟨Nat.lt_of_lt_of_le h.1 k.size, fun i hi c hc => (k.below.cell (p := ⟨g, off + i * 6 + c, none⟩) h.1).trans (h.2 i hi c hc)⟩
theorem Ents.take {zp : Addr} {w : World} {g off : Nat} {L : List (Int × Int)} (h : Ents zp w g off L) (n : Nat) : Ents zp w g off (L.take n) :=
  ⟨h.1, fun i hi c hc => by
    have hi' : i < L.length := by simp at hi; omega
    rw [h.2 i hi' c hc]; simp⟩
theorem Ents.drop {zp : Addr} {w : World} {g off : Nat} {L : List (Int × Int)} (h : Ents zp w g off L) (n : Nat) : Ents zp w g (off + n * 6) (L.drop n) :=
  ⟨h.1, fun i hi c hc => by
    have hi' : n + i < L.length := by simp at hi; omega
    have := h.2 (n + i) hi' c hc
    rw [show off + n * 6 + i * 6 + c = off + (n + i) * 6 + c from by omega, this]; simp⟩

set_option maxRecDepth 100000 in
set_option maxHeartbeats 4000000 in
theorem build (zp : Addr) : ∀ (n : Nat) (g off cap : Nat) (L : List (Int × Int)) (w : World), L.length = n → n ≤ cap → (n : Int) ≤ 1000000 → Zed w zp → Ents zp w g off L → (∀ x ∈ L, Okx x) →
    Calls Tryd.prog 37 #[.slice (some ⟨g, off, none⟩) n cap] w fun e w' => ∃ t : Tr, e = .returned (.pointer (pa t)) ∧ In zp w' t ∧ Bal t ∧ lst t = L ∧ Bel w w' := by
  intro n
  induction n using Nat.strongRecOn with
  | _ n ih =>
    intro g off cap L w hL hcap hn hz he hx
    by_cases h0 : n = 0
    · subst h0
      have hL0 : L = [] := List.length_eq_zero_iff.1 hL
      subst hL0
      clear ih he hx hz
      go_enter Tryd.func37, Tryd.ntmps37
      go_wp2_with fail
      go_ret
      exact ⟨.nil, rfl, trivial, trivial, rfl, Bel.refl _⟩
    · have IH : Hid _ := ih
      have HE : Hid (Ents zp w g off L) := he
      have HX : Hid (∀ x ∈ L, Okx x) := hx
      have HZ : Hid (∀ V, Bel w V → Zed V zp) := fun V hV => hz.bel hV
      have hi0 : ¬ (n : Int) = 0 := by omega
      have hcI : (n : Int) ≤ (cap : Int) := by omega
      clear ih he hx hz
      go_enter Tryd.func37, Tryd.ntmps37
      go_wp2_with fail
      have hmid : ((n : Int) / 2) = ((n / 2 : Nat) : Int) := by omega
      have hmm : n / 2 < n ∧ (n = 2 * (n / 2) ∨ n = 2 * (n / 2) + 1) := by omega
      rw [hmid]
      clear hmid
      generalize n / 2 = m at *
      have hm0 : (0 : Int) ≤ (m : Int) := by omega
      have hm1 : (m : Int) < (n : Int) := by omega
      have hm2 : (m : Int) ≤ (cap : Int) := by omega
      have hm3 : IntKind.i64.wrap ((m : Int) + 1) = (m : Int) + 1 := wrapI (by omega) (by omega)
      have hm4 : (0 : Int) ≤ (m : Int) + 1 := by omega
      have hm5 : (m : Int) + 1 ≤ (n : Int) := by omega
      have hm6 : ((m : Int) + 1).toNat = m + 1 := by omega
      obtain ⟨y, hy⟩ : ∃ y, L[m]'(by omega) = y := ⟨_, rfl⟩
      have HY : Hid (Okx y) := hy ▸ HX.out _ (List.getElem_mem _)
      have HSP : Hid (L = L.take m ++ y :: L.drop (m + 1)) := by
        have e1 : L = L.take m ++ L.drop m := (List.take_append_drop m L).symm
        rw [List.drop_eq_getElem_cons (by omega), hy] at e1
        exact e1
      have cc : ∀ c, c < 6 → ∀ V, Bel w V → V.cell? ⟨g, off + m * 6 + c, none⟩ = (encE zp y)[c]? := fun c hc V hV => by
        have := (HE.out.bel hV).2 m (by omega) c hc
        rw [hy] at this
        exact this
      have c0 : ∀ V, Bel w V → V.cell? ⟨g, off + m * 6, none⟩ = some (.int .u64 0) := fun V hV => (cc 0 (by omega) V hV).trans rfl
      have c1 : ∀ V, Bel w V → V.cell? ⟨g, off + m * 6 + 1, none⟩ = some (.int .u64 (low y.1)) := fun V hV => (cc 1 (by omega) V hV).trans rfl
      have c2 : ∀ V, Bel w V → V.cell? ⟨g, off + m * 6 + 2, none⟩ = some (.pointer (some zp)) := fun V hV => (cc 2 (by omega) V hV).trans rfl
      have c3 : ∀ V, Bel w V → V.cell? ⟨g, off + m * 6 + 3, none⟩ = some (.int .u64 0) := fun V hV => (cc 3 (by omega) V hV).trans rfl
      have c4 : ∀ V, Bel w V → V.cell? ⟨g, off + m * 6 + 4, none⟩ = some (.int .u64 (low y.2)) := fun V hV => (cc 4 (by omega) V hV).trans rfl
      have c5 : ∀ V, Bel w V → V.cell? ⟨g, off + m * 6 + 5, none⟩ = some (.pointer (some zp)) := fun V hV => (cc 5 (by omega) V hV).trans rfl
      have CL : Hid (∀ V, Bel w V → Calls Tryd.prog 37 #[.slice (some ⟨g, off, none⟩) m cap] V fun e w' => ∃ t : Tr, e = .returned (.pointer (pa t)) ∧ In zp w' t ∧ Bal t ∧ lst t = L.take m ∧ Bel V w') := fun V hV =>
        IH.out m (by omega) g off cap (L.take m) V (by simp; omega) (by omega) (by omega) (HZ.out V hV) ((HE.out.bel hV).take m) (fun x hx => HX.out x (List.mem_of_mem_take hx))
      have CR : Hid (∀ V, Bel w V → Calls Tryd.prog 37 #[.slice (if cap = m + 1 then some ⟨g, off, none⟩ else some ⟨g, off + (m + 1) * 6, none⟩) (n - (m + 1)) (cap - (m + 1))] V fun e w' => ∃ t : Tr, e = .returned (.pointer (pa t)) ∧ In zp w' t ∧ Bal t ∧ lst t = L.drop (m + 1) ∧ Bel V w') := fun V hV => by
        split
        · have hd : L.drop (m + 1) = [] := List.drop_eq_nil_of_le (by omega)
          rw [hd]
          exact IH.out (n - (m + 1)) (by omega) g off (cap - (m + 1)) [] V (by simp; omega) (by omega) (by omega) (HZ.out V hV) ⟨(HE.out.bel hV).1, fun i hi => by simp at hi⟩ (fun x hx => by simp at hx)
        · exact IH.out (n - (m + 1)) (by omega) g (off + (m + 1) * 6) (cap - (m + 1)) (L.drop (m + 1)) V (by simp; omega) (by omega) (by omega) (HZ.out V hV) ((HE.out.bel hV).drop (m + 1)) (fun x hx => HX.out x (List.mem_of_mem_drop hx))
      have HN : Hid (m < n ∧ (n = 2 * m ∨ n = 2 * m + 1) ∧ L.length = n ∧ n ≤ 1000000) := ⟨hmm.1, hmm.2, hL, by omega⟩
      clear IH HX cc hy hmm hL hcap
      by_cases hce : cap = m + 1
      · obtain rfl : n = m + 1 := by have := HN.out; omega
        subst hce
        rw [if_pos rfl, Nat.sub_self] at CR
        have hm7 : (m : Int) ≤ ((m + 1 : Nat) : Int) := by omega
        have hm8 : (m : Int) < ((m + 1 : Nat) : Int) := by omega
        have hm9 : (m : Int) ≤ (m : Int) + 1 := by omega
        have hm10 : (m : Int) < (m : Int) + 1 := by omega
        go_region_held3 (fun w' => Bel w w') (first | assumption | exact (Bel.refl _).drew) (first
          | (have := hbL; have := hbR; go_at_call 53; refine (join zp y tL tR _ (HZ.out _ (by assumption)) (by first | exact hinL | exact hinL.bel hbR) (by first | exact hinR | exact hinR.bel hbL) HY.out ?_).mono ?_; (rw [← siz_lst, ← siz_lst, hlL, hlR]; have := HN.out; simp; omega); rintro e w3 ⟨b, rfl, hin3, hb3⟩; have hB3 : Bel w w3 := Bel.trans (by assumption) hb3)
          | (go_at_call 37; with_reducible refine (CL.out _ (by assumption)).mono ?_; rintro e wL ⟨tL, rfl, hinL, hbalL, hlL, hbL⟩; have hBL : Bel w wL := Bel.trans (by assumption) hbL)
          | (go_at_call 37; with_reducible refine (CR.out _ (by assumption)).mono ?_; rintro e wR ⟨tR, rfl, hinR, hbalR, hlR, hbR⟩; have hBR : Bel w wR := Bel.trans (by assumption) hbR))
        all_goals
          go_wp2_with fail
          go_ret
          refine ⟨_, rfl, hin3, ?_, ?_, hB3⟩
          · have e1 := siz_lst tL
            have e2 := siz_lst tR
            have := HN.out
            rw [hlL] at e1
            rw [hlR] at e2
            simp at e1 e2
            exact ⟨by omega, by omega, hbalL, hbalR⟩
          · show lst tL ++ y :: lst tR = L
            rw [hlL, hlR]
            exact HSP.out.symm
      · rw [if_neg hce] at CR
        go_region_held3 (fun w' => Bel w w') (first | assumption | exact (Bel.refl _).drew) (first
          | (have := hbL; have := hbR; go_at_call 53; refine (join zp y tL tR _ (HZ.out _ (by assumption)) (by first | exact hinL | exact hinL.bel hbR) (by first | exact hinR | exact hinR.bel hbL) HY.out ?_).mono ?_; (rw [← siz_lst, ← siz_lst, hlL, hlR]; have := HN.out; simp; omega); rintro e w3 ⟨b, rfl, hin3, hb3⟩; have hB3 : Bel w w3 := Bel.trans (by assumption) hb3)
          | (go_at_call 37; with_reducible refine (CL.out _ (by assumption)).mono ?_; rintro e wL ⟨tL, rfl, hinL, hbalL, hlL, hbL⟩; have hBL : Bel w wL := Bel.trans (by assumption) hbL)
          | (go_at_call 37; with_reducible refine (CR.out _ (by assumption)).mono ?_; rintro e wR ⟨tR, rfl, hinR, hbalR, hlR, hbR⟩; have hBR : Bel w wR := Bel.trans (by assumption) hbR))
        all_goals
          go_wp2_with fail
          go_ret
          refine ⟨_, rfl, hin3, ?_, ?_, hB3⟩
          · have e1 := siz_lst tL
            have e2 := siz_lst tR
            have := HN.out
            rw [hlL] at e1
            rw [hlR] at e2
            simp at e1 e2
            exact ⟨by omega, by omega, hbalL, hbalR⟩
          · show lst tL ++ y :: lst tR = L
            rw [hlL, hlR]
            exact HSP.out.symm
end Go.Proofs.Qxb6609544aDoor
