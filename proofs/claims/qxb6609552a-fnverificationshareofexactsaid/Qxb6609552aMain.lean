import Derived.Test.Qxb6609552aEq
import Derived.Test.Qxb6609552aBytes
namespace Go.Proofs.Qxb6609552a
open Go.RowKit

def S27 (p v : Value) : Sem Unit := Instr.storeAt 27 p v
theorem s27 (p v : Value) : Instr.storeAt 27 p v = S27 p v := rfl
theorem run_S27 (w : World) (b o : Nat) (l : List Value) (hl : Ones l) (ht : w.there b o 33) : (S27 (.pointer (some ⟨b, o, none⟩)) (.agg l.toArray)).run Try.prog w = .ok () (w.setCells b o l) :=
  run_storeAt_mid w b o 27 _ (by simpa [hl.1] using ht) (by rw [size27]; simp [hl.1]) (all_oneCell_toArray hl.2)
attribute [local go_sem ↓] l27 l35 s35 s27
attribute [local go_sem] run_L27 run_L35 run_S35 run_S27

/-- What the law's own loop has found good of the first k shares. -/
def Good (E : Nat → Int) (q : Int) (k : Nat) : Prop := (∀ j, j + 1 < k → E j < E (j + 1)) ∧ ∀ j, j < k → (q < E j ↔ 0 < wrap64 (E j - q))
theorem Good.next {E : Nat → Int} {q : Int} {k : Nat} (h : Good E q k) (h1 : 0 < k → E (k - 1) < E k) (h2 : q < E k ↔ 0 < wrap64 (E k - q)) : Good E q (k + 1) := by
  refine ⟨fun j hj => ?_, fun j hj => ?_⟩
  · by_cases e : j + 1 = k
    · subst e; exact h1 (by omega)
    · exact h.1 j (by omega)
  · by_cases e : j = k
    · subst e; exact h2
    · exact h.2 j (by omega)
theorem Good.lt {E : Nat → Int} {q : Int} {n : Nat} (h : Good E q n) : ∀ i j, i < j → j < n → E i < E j := fun i j hij hj => by
  induction j with
  | zero => omega
  | succ j ih =>
    have := h.1 j hj
    by_cases e : i = j
    · subst e; exact this
    · have := ih (by omega) (by omega); omega
theorem ord_zero {x q : Int} (h1 : -9223372036854775808 ≤ x ∧ x ≤ 9223372036854775807) (h2 : -9223372036854775808 ≤ q ∧ q ≤ 9223372036854775807) : wrap64 (x - q) = 0 ↔ x = q := by
  unfold wrap64; omega
theorem Good.mono {E : Nat → Int} {q : Int} {n : Nat} (h : Good E q n) (hE : ∀ i, i < n → -9223372036854775808 ≤ E i ∧ E i ≤ 9223372036854775807) (hq : -9223372036854775808 ≤ q ∧ q ≤ 9223372036854775807) :
    ∀ i j, i < j → j < n → 0 ≤ ordAt E q i → 0 < ordAt E q j := fun i j hij hj h0 => by
  have h1 := h.lt i j hij hj
  have h2 := h.2 i (by omega)
  have h3 := h.2 j hj
  have h4 := ord_zero (hE i (by omega)) hq
  unfold ordAt at *
  apply h3.1
  by_cases e : wrap64 (E i - q) = 0
  · have := h4.1 e; omega
  · have := h2.2 (by omega); omega

theorem there_new (W : World) (c : Array Value) (t : TypeId) (h : c.size = 33) : (W.alloc (.cells c t)).there W.heap.size 0 33 := fun j hj => ⟨by simp; omega, by simp⟩
attribute [local go_sem] there_new size_setCells

/-- The two variables of the law's end, as they stand at first. -/
theorem starts {V : World} {c c' : Array Value} {t t' : TypeId} {G : List Value} (hc : c.size = 33) (hG : G.length = 33) (hc' : c' = zeros.toArray) :
    (((V.alloc (.cells c t)).setCells V.heap.size 0 G).alloc (.cells c' t')).rangeAt V.heap.size 0 G ∧ (((V.alloc (.cells c t)).setCells V.heap.size 0 G).alloc (.cells c' t')).rangeAt (V.heap.size + 1) 0 zeros ∧
    (((V.alloc (.cells c t)).setCells V.heap.size 0 G).alloc (.cells c' t')).there (V.heap.size + 1) 0 33 ∧ Below V.heap.size V (((V.alloc (.cells c t)).setCells V.heap.size 0 G).alloc (.cells c' t')) := by
  subst hc'
  have hs : ((V.alloc (.cells c t)).setCells V.heap.size 0 G).heap.size = V.heap.size + 1 := by rw [size_setCells]; simp
  refine ⟨World.rangeAt_alloc (World.rangeAt_setCells_same _ _ _ _ (by rw [hG]; exact there_new V c t hc)) _, ?_, ?_, ?_⟩
  · rw [← hs]
    intro j v hv
    simpa using hv
  · rw [← hs]
    exact there_new _ _ _ (by simp [zeros])
  · refine (below_setCells (Nat.le_refl _) _ _ _ ((Below.refl _ V).alloc (Nat.le_refl _) _)).alloc (by omega) _
/-- Where the one that is looked for stands. -/
theorem key {E : Nat → Int} {q : Int} {n i : Nat} {f : Bool} (hE : ∀ i, i < n → -9223372036854775808 ≤ E i ∧ E i ≤ 9223372036854775807) (hq : -9223372036854775808 ≤ q ∧ q ≤ 9223372036854775807)
    (hm : ∀ i j, i < j → j < n → 0 ≤ ordAt E q i → 0 < ordAt E q j) (hlo : ∀ j, j < i → ordAt E q j < 0) (hhi : ∀ j, i ≤ j → j < n → 0 ≤ ordAt E q j) (hf : f = true ↔ i < n ∧ ordAt E q i = 0) :
    ∀ j, j < n → (E j = q ↔ f = true ∧ j = i) := fun j hj => by
  have hz : ∀ j, j < n → (ordAt E q j = 0 ↔ E j = q) := fun j hj => ord_zero (hE j hj) hq
  constructor
  · intro h
    have h0 := (hz j hj).2 h
    have h1 : ¬ j < i := fun h => by have := hlo j h; omega
    have h2 : ¬ i < j := fun h => by have := hm i j h hj (hhi i (Nat.le_refl _) (by omega)); omega
    have e : j = i := by omega
    subst e
    exact ⟨hf.2 ⟨hj, h0⟩, rfl⟩
  · rintro ⟨h1, rfl⟩
    exact (hz j hj).1 (hf.1 h1).2
theorem pnt_zeros : Pnt zeros := ⟨by decide, fun v hv => ⟨0, List.eq_of_mem_replicate hv⟩⟩
theorem Pnt.ones {l : List Value} (h : Pnt l) : Ones l := ⟨h.1, fun v hv => by obtain ⟨z, rfl⟩ := h.2 v hv; rfl⟩

set_option maxRecDepth 100000 in
set_option maxHeartbeats 2000000 in
theorem main_walk (c0 c2 c3 q : Int) (gk gen : Array Value) (a : Option Addr) (n cap : Nat) (E : Nat → Int) (P : Nat → List Value) (w : World) (hnm : n ≤ maxLen) (hnil : a = none → n = 0 ∧ cap = 0) (hgk : gk.size = 33) (hgen : gen.size = 16)
    (hd : Sh w a n E P) (hP : ∀ i, i < n → Pnt (P i)) (hE : ∀ i, i < n → -9223372036854775808 ≤ E i ∧ E i ≤ 9223372036854775807) (hq : -9223372036854775808 ≤ q ∧ q ≤ 9223372036854775807) :
    Calls Try.prog 4 #[.int .i64 c0, .agg gk, .int .i64 c2, .int .i64 c3, .agg gen, .slice a n cap, .int .i64 q] w fun e w' => e = .returned (.bool true) ∧ Below w.heap.size w w' := by
  have HB : Hid _ := fun V k => boxes (w := w) (gk := gk) (gen := gen) V k
  have h1 : Hid ((Try.prog.info? 27).map (·.size) = some gk.toList.length) := by show _ = _; rw [size27]; simp [hgk]
  have h2 : Hid ((Try.prog.info? 28).map (·.size) = some gen.toList.length) := by show _ = _; rw [size28]; simp [hgen]
  have HBB : Hid _ := HB.out _ (Below.refl _ _)
  have hz2 : ((w.alloc (.cells gk 27)).alloc (.cells gen 28)).heap.size = w.heap.size + 2 := by simp
  have hb2 : Below w.heap.size w ((w.alloc (.cells gk 27)).alloc (.cells gen 28)) := ((Below.refl _ w).alloc (Nat.le_refl _) _).alloc (by simp) _
  have HN : Hid _ := hnm
  have HNil : Hid _ := hnil
  have HGk : Hid _ := hgk
  have HGen : Hid _ := hgen
  have HD : Hid (Sh w a n E P) := hd
  have HP : Hid (∀ i, i < n → Pnt (P i)) := hP
  have HE : Hid _ := hE
  have HQ : Hid _ := hq
  clear hnm hnil hgk hgen hd hP hE hq
  go_enter Try.func4, Try.ntmps4
  go_wp2_with (first
    | (refine wpList_load_mid rfl 27 _ rfl _ _ rfl _ _ HBB.out.1 Try.underlying27 rfl h1.out ?_)
    | (refine wpList_load_mid rfl 28 _ rfl _ _ rfl _ _ HBB.out.2 Try.underlying28 rfl h2.out ?_))
  refine Calls.mono (bytes _ _ _ _ _ _ _ _ _ HN.out _) ?_
  rintro e w1 ⟨b, rfl, hb, hb1⟩
  clear HBB
  generalize hW2 : (w.alloc (.cells gk 27)).alloc (.cells gen 28) = W2 at *
  have hbw : Below w.heap.size w w1 := hb2.trans (hb1.mono (by omega))
  cases b with
  | false =>
    clear hb
    go_wp2_with fail
    go_ret
    exact ⟨rfl, hbw⟩
  | true =>
    have hn : n ≤ 1048576 := hb rfl
    clear hb
    by_cases h16 : (65536 : Int) < (n : Int)
    · go_wp2_with fail
      go_ret
      exact ⟨rfl, hbw⟩
    go_wp2_with fail
    go_loopw [15] (fun i wr => ∃ k : Nat, k ≤ n ∧ i = .int .i64 k ∧ Good E q k ∧ Below W2.heap.size W2 wr) (fun i _ => n - (intOf i).toNat)
    case atStart => exact ⟨0, Nat.zero_le _, rfl, ⟨fun j hj => by omega, fun j hj => by omega⟩, hb1⟩
    case round =>
      obtain ⟨k, hk, rfl, hG, hB⟩ := hrel
      have HG : Hid (Good E q k) := hG
      clear hG
      have hbr : Below w.heap.size w wr := hb2.trans (hB.mono (by omega))
      by_cases hlt : k < n
      · obtain ⟨g, off, rfl, hg, hr⟩ := HD.out k hlt
        have hck : wr.cell? ⟨g, off + k * 34, none⟩ = some (.int .i64 (E k)) := (range_below hr hbr hg) 0 _ rfl
        have hbd : 0 ≤ (k : Int) ∧ (k : Int) < (n : Int) := by omega
        clear hr
        by_cases h0 : 0 < k
        · obtain ⟨g', off', e', hg', hr'⟩ := HD.out (k - 1) (by omega)
          cases e'
          have hcj : wr.cell? ⟨g, off + (k - 1) * 34, none⟩ = some (.int .i64 (E (k - 1))) := (range_below hr' hbr hg) 0 _ rfl
          have hT : ((k : Int) - 1).toNat = k - 1 := by omega
          have hbe : 0 ≤ (k : Int) - 1 ∧ (k : Int) - 1 < (n : Int) := by omega
          have hdk : decide (0 < k) = true := by simp; omega
          clear hr' hg'
          by_cases hle : E k ≤ E (k - 1)
          · go_wp2_with fail
            go_quiet (fail)
            go_wp2_with fail
            go_ret
            exact ⟨rfl, below_drewN hbr _⟩
          go_wp2_with fail
          go_quiet (fail)
          have HPrev : Hid (0 < k → E (k - 1) < E k) := fun _ => by omega
          by_cases hA : q < E k
          · by_cases hC : 0 < wrap64 (E k - q)
            · go_wp2_with fail
              go_roundw
              case rel => exact ⟨k + 1, by omega, by go_num, HG.out.next HPrev.out ⟨fun _ => hC, fun _ => hA⟩, below_drewN hB _⟩
              case measure => simp [intOf]; omega
            · go_wp2_with fail
              go_ret
              exact ⟨rfl, below_drewN hbr _⟩
          · by_cases hC : 0 < wrap64 (E k - q)
            · go_wp2_with fail
              go_ret
              exact ⟨rfl, below_drewN hbr _⟩
            · go_wp2_with fail
              go_roundw
              case rel => exact ⟨k + 1, by omega, by go_num, HG.out.next HPrev.out ⟨fun h => absurd h hA, fun h => absurd h hC⟩, below_drewN hB _⟩
              case measure => simp [intOf]; omega
        · have hdk : decide (0 < k) = false := by simp; omega
          have HPrev : Hid (0 < k → E (k - 1) < E k) := fun h => absurd h h0
          go_wp2_with fail
          go_quiet (fail)
          by_cases hA : q < E k
          · by_cases hC : 0 < wrap64 (E k - q)
            · go_wp2_with fail
              go_roundw
              case rel => exact ⟨k + 1, by omega, by go_num, HG.out.next HPrev.out ⟨fun _ => hC, fun _ => hA⟩, below_drewN hB _⟩
              case measure => simp [intOf]; omega
            · go_wp2_with fail
              go_ret
              exact ⟨rfl, below_drewN hbr _⟩
          · by_cases hC : 0 < wrap64 (E k - q)
            · go_wp2_with fail
              go_ret
              exact ⟨rfl, below_drewN hbr _⟩
            · go_wp2_with fail
              go_roundw
              case rel => exact ⟨k + 1, by omega, by go_num, HG.out.next HPrev.out ⟨fun h => absurd h hA, fun h => absurd h hC⟩, below_drewN hB _⟩
              case measure => simp [intOf]; omega
      · have e : k = n := by omega
        subst e
        have HMono : Hid _ := HG.out.mono HE.out HQ.out
        have HBB : Hid _ := HB.out _ hB
        go_wp2_with (first
          | (refine wpList_load_mid rfl 27 _ rfl _ _ rfl _ _ HBB.out.1 Try.underlying27 rfl h1.out ?_)
          | (refine wpList_load_mid rfl 28 _ rfl _ _ rfl _ _ HBB.out.2 Try.underlying28 rfl h2.out ?_))
        refine Calls.mono (share _ _ _ _ _ _ _ _ E P _ hn HNil.out HGk.out HGen.out (HD.out.below hbr) HP.out) ?_
        rintro e w3 ⟨sb, a', cap', rfl, hc5, hd3, hb3⟩
        have hbw3 : Below w.heap.size w w3 := hbr.trans (hb3.mono hbr.size)
        go_wp2_with fail
        refine Calls.mono (shareOf sb q a' k cap' E P _ hn hc5 hd3 HP.out HMono.out) ?_
        rintro e w4 ⟨i, f, rfl, hi, hlo, hhi, hf, hb4⟩
        have hbw4 : Below w.heap.size w w4 := hbw3.trans (hb4.mono hbw3.size)
        have HK : Hid (∀ j, j < k → (E j = q ↔ f = true ∧ j = i)) := key HE.out HQ.out HMono.out hlo hhi hf
        have hG : Pnt (if f = true then P i else zeros) := by
          cases f with
          | false => exact pnt_zeros
          | true => exact HP.out i (hf.1 rfl).1
        have HF : Hid (f = true → i < k) := fun h => (hf.1 h).1
        have HGd : Hid (∀ j, k ≤ j → (if (f && decide (i < j)) = true then P i else zeros) = (if f = true then P i else zeros)) := fun j hj => by
          cases f with
          | false => rfl
          | true => have := (hf.1 rfl).1; simp [show i < j from by omega]
        clear hlo hhi hf hi
        generalize (if f = true then P i else zeros) = G at *
        have hGo := hG.ones
        go_wp2_with fail
        go_loopw [21, 22] (fun fd ix wl => ∃ j : Nat, j ≤ k ∧ ix = .int .i64 j ∧ fd = .bool (f && decide (i < j)) ∧ wl.rangeAt w4.heap.size 0 G ∧ wl.rangeAt (w4.heap.size + 1) 0 (if (f && decide (i < j)) = true then P i else zeros) ∧ wl.there (w4.heap.size + 1) 0 33 ∧ Below w4.heap.size w4 wl) (fun _ ix _ => k - (intOf ix).toNat)
        case atStart =>
          obtain ⟨s1, s2, s3, s4⟩ := starts (V := w4) (c := zeros.toArray) (t := 35) (t' := 27) (G := G) (by simp [zeros]) hG.1 rfl
          have e0 : (if (f && decide (i < 0)) = true then P i else zeros) = zeros := by simp
          exact ⟨0, Nat.zero_le _, rfl, by simp, s1, by rw [e0]; exact s2, s3, s4⟩
        case round =>
          obtain ⟨j, hj, rfl, rfl, r1, r2, hth, hbl⟩ := hrel
          have hbq : Below w.heap.size w wr := hbw4.trans (hbl.mono hbw4.size)
          by_cases hlj : j < k
          · obtain ⟨g, off, rfl, hg, hr⟩ := HD.out j hlj
            have hr0 := range_below hr hbq hg
            have hcj : wr.cell? ⟨g, off + j * 34, none⟩ = some (.int .i64 (E j)) := hr0 0 _ rfl
            have hbd : 0 ≤ (j : Int) ∧ (j : Int) < (k : Int) := by omega
            have R1 : Hid (wr.rangeAt w4.heap.size 0 G) := r1
            have R2 : Hid (wr.rangeAt (w4.heap.size + 1) 0 (if (f && decide (i < j)) = true then P i else zeros)) := r2
            clear r1 r2 hr
            by_cases hEq : E j = q
            · obtain ⟨hft, hji⟩ := (HK.out j hlj).1 hEq
              subst hft
              have HJ : Hid (j = i) := hji
              have hPj := HP.out j hlj
              have hr1 : wr.rangeAt g (off + j * 34 + 1) (P j) := fun x v hv => by
                have := hr0 (x + 1) v hv
                rw [show off + j * 34 + 1 + x = off + j * 34 + (x + 1) from by omega]; exact this
              have hh : Has wr g (off + j * 34 + 1) := has_of hr1 hPj.1
              have hrd : rd wr g (off + j * 34 + 1) = P j := rd_of hr1 hPj.1
              have hon := hPj.ones
              have hl33 : Hid ((P j).length = 33) := hPj.1
              clear hr0 hr1 hPj hji
              have HEq : Hid (E j = q) := hEq
              clear hEq
              rw [HEq.out] at hcj
              go_wp2_with fail
              have ei : (true && decide (i < j + 1)) = true := by have := HJ.out; simp; omega
              refine ⟨⟨j + 1, by omega, by go_num, by rw [ei], World.rangeAt_setCells_apart R1.out _ _ _ (.inl (by omega)), ?_, World.there_setCells hth _ _ _, below_setCells (by omega) _ _ _ hbl⟩, by simp [intOf]; omega⟩
              rw [if_pos ei, ← HJ.out]
              exact World.rangeAt_setCells_same _ _ _ _ (by rw [hl33.out]; exact hth)
            · have ei : (f && decide (i < j + 1)) = (f && decide (i < j)) := by
                cases f with
                | false => rfl
                | true =>
                  have : j ≠ i := fun e => hEq ((HK.out j hlj).2 ⟨rfl, e⟩)
                  have e : (i < j + 1) ↔ (i < j) := by omega
                  simp [e]
              have EI : Hid ((f && decide (i < j + 1)) = (f && decide (i < j))) := ei
              clear ei hr0
              go_wp2_with fail
              exact ⟨⟨j + 1, by omega, by go_num, by rw [EI.out], R1.out, by rw [EI.out]; exact R2.out, hth, hbl⟩, by simp [intOf]; omega⟩
          · have e : j = k := by omega
            subst e
            have hfd : (f && decide (i < j)) = f := by
              cases f with
              | false => rfl
              | true => have := HF.out rfl; simp [this]
            rw [HGd.out j (Nat.le_refl _)] at r2
            have hh1 := has_of r1 hG.1
            have hh2 := has_of r2 hG.1
            have hr1 := rd_of r1 hG.1
            have hr2 := rd_of r2 hG.1
            have h35 := fun w => eql35 w G hG
            clear r1 r2 HGd HF HK
            rw [hfd]
            have HFd : Hid ((f && decide (i < j)) = f) := hfd
            clear hfd
            go_wp2_with fail
            go_ret
            exact ⟨rfl, hbq⟩
end Go.Proofs.Qxb6609552a
