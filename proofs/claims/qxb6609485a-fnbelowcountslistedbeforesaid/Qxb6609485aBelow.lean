import Derived.Test.Qxb6609485aChild
import Derived.Test.Qxb6609485aDoc
import Derived.Deep.LoopGhost
namespace Go.Proofs.Qxb6609485a
open Go.RowKit
open Go.Lib (compareBytes)

/-- What a document adds to the count. -/
def cnt : Option Bool → Nat
  | some false => 1
  | _ => 0
/-- What the first k documents add. -/
def cntTo (ds : Nat → Option Bool) : Nat → Nat
  | 0 => 0
  | k + 1 => cntTo ds k + cnt (ds k)
theorem cntTo_le (ds : Nat → Option Bool) : ∀ k, cntTo ds k ≤ k
  | 0 => Nat.le_refl _
  | k + 1 => by
    have := cntTo_le ds k
    have h : cnt (ds k) ≤ 1 := by rcases ds k with _ | _ | _ <;> simp [cnt]
    simp only [cntTo]; omega
/-- What the first k children add. -/
def sumTo (ms : Nat → Nat) : Nat → Nat
  | 0 => 0
  | k + 1 => sumTo ms k + ms k

theorem sumTo_mono (ms : Nat → Nat) (q : Nat) : ∀ d, sumTo ms q ≤ sumTo ms (q + d)
  | 0 => Nat.le_refl _
  | d + 1 => Nat.le_trans (sumTo_mono ms q d) (Nat.le_add_right _ _)

/-- A leaf as it lies: at block p. -/
structure Leaf (w : World) (p g off n cap : Nat) (ss : Nat → ByteArray) (Ls : Nat → Value) (ds : Nat → Option Bool) : Prop where
  lt : p < w.heap.size
  c0 : w.cell? ⟨p, 0, none⟩ = some (.int .u64 0)
  c1 : w.cell? ⟨p, 1, none⟩ = some (.slice (some ⟨g, off, none⟩) n cap)
  c2 : w.cell? ⟨p, 2, none⟩ = some (.slice none 0 0)
  docs : Docs w (some ⟨g, off, none⟩) n ss Ls
  line : ∀ i, i < n → Line w (Ls i) (ds i)
theorem Leaf.below {w w' : World} {p g off n cap : Nat} {ss : Nat → ByteArray} {Ls : Nat → Value} {ds : Nat → Option Bool} (h : Leaf w p g off n cap ss Ls ds) (k : Below w.heap.size w w') : Leaf w' p g off n cap ss Ls ds :=
  ⟨Nat.lt_of_lt_of_le h.lt k.size, (k.cell h.lt).trans h.c0, (k.cell h.lt).trans h.c1, (k.cell h.lt).trans h.c2, h.docs.below k, fun i hi => (h.line i hi).below k⟩
/-- An inner node of m + 1 children as it lies; lp: the leaf that the search comes to, base: what stands ahead of it. -/
structure Inner (w : World) (p g off m cap : Nat) (Ps : Nat → Value) (ms : Nat → Nat) (ss : Nat → ByteArray) : Prop where
  lt : p < w.heap.size
  c2 : w.cell? ⟨p, 2, none⟩ = some (.slice (some ⟨g, off, none⟩) (m + 1) cap)
  kids : Kids w (some ⟨g, off, none⟩) (m + 1) Ps (fun i => (ms i : Int)) ss
  cap : m < cap
  one : 1 ≤ m
  ptr : ∀ i, i < m + 1 → ∃ u, Ps i = .pointer u
theorem Inner.below {w w' : World} {p g off m cap : Nat} {Ps : Nat → Value} {ms : Nat → Nat} {ss : Nat → ByteArray} (h : Inner w p g off m cap Ps ms ss) (k : Below w.heap.size w w') : Inner w' p g off m cap Ps ms ss :=
  ⟨Nat.lt_of_lt_of_le h.lt k.size, (k.cell h.lt).trans h.c2, h.kids.below k, h.cap, h.one, h.ptr⟩

/-- How many of the leaf's documents count. -/
def upTo (i : Nat) (f inc : Bool) : Nat := if f && inc then i + 1 else i

set_option maxHeartbeats 1000000 in
theorem below_any (tb rp lp : Nat) (base : Nat) (g off n cap : Nat) (ss : Nat → ByteArray) (Ls : Nat → Value) (ds : Nat → Option Bool) (b : ByteArray) (inc : Bool) (w : World)
    (htb : tb < w.heap.size) (ht : w.cell? ⟨tb, 0, none⟩ = some (.pointer (some ⟨rp, 0, none⟩)))
    (hl : Leaf w lp g off n cap ss Ls ds) (hn : n ≤ 1048576) (hcap : n ≤ cap)
    (hmono : ∀ i j, i < j → j < n → 0 ≤ ordAt ss b i → 0 < ordAt ss b j) (i : Nat) (f : Bool) (hs : Spec n (ordAt ss b) i f) (u : Nat) (hu : u = upTo i f inc) (hbase : base ≤ 1048576)
    (hroot : (rp = lp ∧ base = 0) ∨ ∃ kg koff m kc Ps ms ks ki kf, Inner w rp kg koff m kc Ps ms ks ∧ m ≤ 1048575 ∧ (∀ i j, i < j → j < m → 0 ≤ ordAt (fun x => ks (x + 1)) b i → 0 < ordAt (fun x => ks (x + 1)) b j) ∧
      Spec m (ordAt (fun x => ks (x + 1)) b) ki kf ∧ Ps (childOf ki kf) = .pointer (some ⟨lp, 0, none⟩) ∧ base = sumTo ms (childOf ki kf)) :
    Calls Try.prog 24 #[.pointer (some ⟨tb, 0, none⟩), .string b, .bool inc] w fun e w' => e = .returned (.int .i64 (base + cntTo ds u : Nat)) ∧ Below w.heap.size w w' := by
  go_enter Try.func24, Try.ntmps24
  go_wp2_with fail
  refine (keyof b _).mono ?_
  rintro e w1 ⟨rfl, hb1⟩
  have t1 : ∀ o, (w1.alloc o).cell? ⟨tb, 0, none⟩ = some (.pointer (some ⟨rp, 0, none⟩)) := fun o => (World.cell?_alloc_lt _ _ _ (Nat.lt_of_lt_of_le htb hb1.size)).trans ((hb1.cell htb).trans ht)
  have hb0 : Below w.heap.size w (w1.alloc (.cells #[.int .u64 (head b : Nat), .string b] 40)) := hb1.alloc hb1.size _
  have HB0 : Hid _ := hb0
  have HR : Hid _ := hroot
  have HL : Hid _ := hl
  have hz1 := hb1.size
  have HU : Hid _ := hu
  clear hu hb0 hroot hl hb1
  go_wp2_with fail
  go_loopg [8, 9] 1 (fun k c n wr => Below (w1.heap.size + 1) (w1.alloc (.cells #[.int .u64 (head b : Nat), .string b] 40)) wr ∧
    ((n = .pointer (some ⟨lp, 0, none⟩) ∧ c = .int .i64 base) ∨ (k = 1 ∧ n = .pointer (some ⟨rp, 0, none⟩) ∧ c = .int .i64 0 ∧ ∃ kg koff m kc Ps ms ks ki kf, Inner w rp kg koff m kc Ps ms ks ∧ m ≤ 1048575 ∧ (∀ i j, i < j → j < m → 0 ≤ ordAt (fun x => ks (x + 1)) b i → 0 < ordAt (fun x => ks (x + 1)) b j) ∧
      Spec m (ordAt (fun x => ks (x + 1)) b) ki kf ∧ Ps (childOf ki kf) = .pointer (some ⟨lp, 0, none⟩) ∧ base = sumTo ms (childOf ki kf))))
  case atStart =>
    refine ⟨Below.refl _ _, ?_⟩
    rcases HR.out with ⟨rfl, rfl⟩ | h
    · exact Or.inl ⟨rfl, rfl⟩
    · exact Or.inr ⟨rfl, rfl, rfl, h⟩
  case round =>
    obtain ⟨hbw, hrel⟩ := hrel
    clear t1 ht HR
    have hzr : w1.heap.size < wr.heap.size := by have := hbw.size; simp at this; omega
    have k0 : wr.cell? ⟨w1.heap.size, 0, none⟩ = some (.int .u64 (head b : Nat)) := (hbw.cell (p := ⟨w1.heap.size, 0, none⟩) (by simp)).trans (by simp)
    have k1 : wr.cell? ⟨w1.heap.size, 1, none⟩ = some (.string b) := (hbw.cell (p := ⟨w1.heap.size, 1, none⟩) (by simp)).trans (by simp)
    have hbr : Below w.heap.size w wr := HB0.out.trans (hbw.mono (by omega))
    rcases hrel with ⟨rfl, rfl⟩ | ⟨rfl, rfl, rfl, kg, koff, m, kc, Ps, ms, ks, ki, kf, hin, hm, hkm, hks, hP, hbs⟩
    · have hl := HL.out.below hbr
      have l2 := hl.c2
      have l1 := hl.c1
      have hlt := hl.lt
      have HL2 : Hid _ := hl
      clear hl HL
      have hne := fun w => run_neq_slice_nil_any (P := Try.prog) w 32 50 none 0 0 0 0 Try.underlying32
      go_wp2_with fail
      have kne := kinNe wr
      replace k0 := Kin.cell hzr k0
      replace k1 := Kin.cell hzr k1
      replace l1 := Kin.cell hlt l1
      have HD : Hid (∀ p : Kin wr, Docs p.at' (some ⟨g, off, none⟩) n ss Ls) := fun p => HL2.out.docs.below p.below
      refine wp_region_kin (by kernel_rfl) (by kernel_rfl) ?_
      repeat (first | go_big_quiet_step ((go_at_call 28; exact kin_of (search' _ _ _ ss Ls b _ hn (HD.out _) hmono i f hs))) | quiet_step ((go_at_call 28; exact kin_of (search' _ _ _ ss Ls b _ hn (HD.out _) hmono i f hs))))
      refine wpQuiet_nil ?_
      intro w2 hw
      obtain ⟨p, hw⟩ := hw
      have hb2 := p.below
      rw [← hw] at hb2
      clear hw HD k0 k1 l1 p kne
      have hl3 := HL2.out.below hb2
      have hbw2 : Below w.heap.size w w2 := hbr.trans (hb2.mono (by have := hbr.size; omega))
      have hi := hs.le
      have hfd := hs.fd
      have hun : u ≤ n := by
        rw [HU.out]; unfold upTo
        split
        · rename_i h; have := (hfd.1 (by simp at h; exact h.1)).1; omega
        · exact hi
      have l1 := hl3.c1
      have hlt3 := hl3.lt
      have HL3 : Hid _ := hl3
      clear hl3 HL2 hfd hmono l2 hne hbw HB0 hbr hzr
      have hcl := cntTo_le ds
      have hz2 : w.heap.size ≤ w2.heap.size := hbw2.size
      have e1 : (f && inc) = true → (i : Int) + 1 = (u : Int) := by intro h; rw [HU.out]; unfold upTo; rw [if_pos h]; omega
      have e2 : (f && inc) = false → (i : Int) = (u : Int) := by intro h; rw [HU.out]; unfold upTo; rw [h]; rfl
      clear HU hi hs
      cases f <;> cases inc
      all_goals
        simp at e1 e2
        go_wp2_with fail
        try clear e1
        try clear e2
        go_loopw [8, 83] (fun c q wr => ∃ j : Nat, j ≤ u ∧ q = .int .i64 j ∧ c = .int .i64 (base + cntTo ds j : Nat) ∧ Below w2.heap.size w2 wr) (fun _ q _ => u - (intOf q).toNat)
        case atStart => exact ⟨0, Nat.zero_le _, rfl, rfl, Below.refl _ _⟩
        case round =>
          obtain ⟨j, hj, rfl, rfl, hb4⟩ := hrel
          have hcl := cntTo_le ds j
          by_cases hju : j < u
          · have hl4 := HL3.out.below hb4
            obtain ⟨g', off', e, hg, c0, c1, c2, c3, c4, c5⟩ := hl4.docs j (by omega)
            cases e
            have hln := hl4.line j (by omega)
            have hst : cntTo ds (j + 1) = cntTo ds j + cnt (ds j) := rfl
            have HST : Hid _ := hst
            clear hst hl4
            rcases hdj : ds j with _ | d
            · rw [hdj] at hln
              rw [show Ls j = .slice none 0 0 from hln] at c2
              have hc0 : cntTo ds (j + 1) = cntTo ds j := by rw [HST.out, hdj]; rfl
              have HC0 : Hid _ := hc0
              clear hdj hln l1 HST hc0
              go_wp2_with fail
              refine (counts_none _).mono ?_
              rintro e w4 ⟨rfl, hb5⟩
              have hb6 : Below w2.heap.size w2 w4 := (hb4.alloc hb4.size _).trans (hb5.mono (by have := hb4.size; simp; omega))
              clear hb5 c0 c1 c2 c3 c4 c5 hb4
              go_wp2_with fail
              go_roundw
              case rel => exact ⟨j + 1, by omega, by go_num, by rw [HC0.out]; go_num, hb6⟩
              case measure => simp [intOf]; omega
            · rw [hdj] at hln
              obtain ⟨lb, hLj, hlb, d0, d1, d2, d3⟩ := hln
              rw [hLj] at c2
              have hc0 : cntTo ds (j + 1) = cntTo ds j + if d then 0 else 1 := by rw [HST.out, hdj]; cases d <;> rfl
              have HC0 : Hid _ := hc0
              clear hdj hLj l1 HST hc0 d0
              go_wp2_with fail
              refine (counts_some d lb _ (by simp; omega) ((World.cell?_alloc_lt _ _ _ hlb).trans d1) ((World.cell?_alloc_lt _ _ _ hlb).trans d2) ((World.cell?_alloc_lt _ _ _ hlb).trans d3)).mono ?_
              rintro e w4 ⟨rfl, hb5⟩
              have hb6 : Below w2.heap.size w2 w4 := (hb4.alloc hb4.size _).trans (hb5.mono (by have := hb4.size; simp; omega))
              clear hb5 c0 c1 c2 c3 c4 c5 hb4 d1 d2 d3
              cases d
              · go_wp2_with fail
                go_roundw
                case rel => exact ⟨j + 1, by omega, by go_num, by rw [HC0.out]; go_num, hb6⟩
                case measure => simp [intOf]; omega
              · go_wp2_with fail
                go_roundw
                case rel => exact ⟨j + 1, by omega, by go_num, by rw [HC0.out]; go_num, hb6⟩
                case measure => simp [intOf]; omega
          · have e : j = u := by omega
            subst e
            have hb7 : Below w.heap.size w wr := hbw2.trans (hb4.mono hz2)
            go_wp2_with fail
            go_ret
            exact ⟨rfl, hb7⟩
    · have hin2 := hin.below hbr
      have hnb := hin2.lt
      have hc2 := hin2.c2
      have hcp := hin2.cap
      have ho := hin2.one
      have hk2 : Kids wr (some ⟨kg, koff + 4, none⟩) m (fun x => Ps (x + 1)) (fun x => (ms (x + 1) : Int)) (fun x => ks (x + 1)) := by
        intro x hx
        obtain ⟨g1, o1, e, hg1, d0, d1, d2, d3⟩ := hin2.kids (x + 1) (by omega)
        cases e
        refine ⟨kg, koff + 4, rfl, hg1, ?_, ?_, ?_, ?_⟩
        · rw [← d0]; congr 2; omega
        · rw [← d1]; congr 2; omega
        · rw [← d2]; congr 2; omega
        · rw [← d3]; congr 2; omega
      have HCH : Hid _ := child rp kg koff m kc (fun x => Ps (x + 1)) (fun x => (ms (x + 1) : Int)) (fun x => ks (x + 1)) b wr ho (by omega) hcp hnb hc2 hk2 hkm ki kf hks
      have hne := fun w => run_neq_slice_nil_any (P := Try.prog) w 32 50 (some ⟨kg, koff, none⟩) (m + 1) kc 0 0 Try.underlying32
      have hkle : childOf ki kf ≤ m := by
        unfold childOf
        split
        · rename_i h; exact (hks.fd.1 h).1
        · exact hks.le
      have HIN : Hid _ := hin2
      have HBS : Hid _ := hbs
      have HP : Hid _ := hP
      clear hin hin2 hk2 hkm hks hbs hP
      obtain ⟨K, hK⟩ : ∃ K, K = childOf ki kf := ⟨_, rfl⟩
      rw [← hK] at HCH hkle HBS HP
      clear hK
      go_wp2_with fail
      refine Calls.mono HCH.out ?_
      rintro e w3 ⟨rfl, hb3⟩
      have hin3 := HIN.out.below hb3
      have hc3 := hin3.c2
      have hlt3 := hin3.lt
      clear HCH HIN hc2
      have HIN : Hid _ := hin3
      clear hin3
      go_wp2_with fail
      go_loopw [8, 42] (fun c x wx => ∃ q : Nat, q ≤ K ∧ x = .int .i64 q ∧ c = .int .i64 (sumTo ms q : Nat) ∧ Below w3.heap.size w3 wx) (fun _ x _ => K - (intOf x).toNat)
      case atStart => exact ⟨0, Nat.zero_le _, rfl, rfl, Below.refl _ _⟩
      case round =>
        obtain ⟨q, hq, rfl, rfl, hb4⟩ := hrel
        have hin4 := HIN.out.below hb4
        have hsm : sumTo ms q ≤ 1048576 := by
          have h1 := sumTo_mono ms q (K - q)
          rw [show q + (K - q) = K from by omega, ← HBS.out] at h1
          omega
        by_cases hqK : q < K
        · obtain ⟨g1, o1, e, hg1, d0, d1, d2, d3⟩ := hin4.kids q (by omega)
          cases e
          obtain ⟨pu, hpu⟩ := hin4.ptr q (by omega)
          rw [hpu] at d0
          have hsm2 : sumTo ms (q + 1) ≤ 1048576 := by
            have h1 := sumTo_mono ms (q + 1) (K - (q + 1))
            rw [show q + 1 + (K - (q + 1)) = K from by omega, ← HBS.out] at h1
            omega
          have hst : sumTo ms (q + 1) = sumTo ms q + ms q := rfl
          have hms : ms q ≤ 1048576 := by omega
          have HST : Hid _ := hst
          clear hst hin4 hpu hc3
          go_wp2_with fail
          go_roundw
          case rel => exact ⟨q + 1, by omega, by go_num, by rw [HST.out]; go_num, hb4.alloc hb4.size _⟩
          case measure => simp [intOf]; omega
        · have e : q = K := by omega
          subst e
          obtain ⟨g1, o1, e, hg1, d0, d1, d2, d3⟩ := hin4.kids q (by omega)
          cases e
          rw [HP.out] at d0
          have n2 := hin4.c2
          have n3 := hin4.lt
          have hz3 := hb3.size
          have hbF : Below (w1.heap.size + 1) (w1.alloc (.cells #[.int .u64 (head b : Nat), .string b] 40)) wr := hbw.trans ((hb3.mono (by omega)).trans (hb4.mono (by omega)))
          clear hin4 hc3 d1 d2 d3
          go_wp2_with fail
          go_roundg 0
          case measure => omega
          case rel => exact ⟨hbF, Or.inl ⟨rfl, by rw [HBS.out]⟩⟩

set_option maxHeartbeats 400000 in
theorem below_nil (tb : Nat) (b : ByteArray) (inc : Bool) (w : World) (htb : tb < w.heap.size) (ht : w.cell? ⟨tb, 0, none⟩ = some (.pointer none)) :
    Calls Try.prog 24 #[.pointer (some ⟨tb, 0, none⟩), .string b, .bool inc] w fun e w' => e = .returned (.int .i64 0) ∧ Below w.heap.size w w' := by
  go_enter Try.func24, Try.ntmps24
  go_wp2_with fail
  refine (keyof b _).mono ?_
  rintro e w1 ⟨rfl, hb1⟩
  have t1 : ∀ o, (w1.alloc o).cell? ⟨tb, 0, none⟩ = some (.pointer none) := fun o => (World.cell?_alloc_lt _ _ _ (Nat.lt_of_lt_of_le htb hb1.size)).trans ((hb1.cell htb).trans ht)
  have hb0 : Below w.heap.size w (w1.alloc (.cells #[.int .u64 (head b : Nat), .string b] 40)) := hb1.alloc hb1.size _
  go_wp2_with fail
  go_loop [9] (fun n => n = .pointer none) (fun _ => 0)
  case atStart => rfl
  case round =>
    subst hrel
    go_wp2_with fail
    go_ret
    exact ⟨rfl, hb0⟩
end Go.Proofs.Qxb6609485a
