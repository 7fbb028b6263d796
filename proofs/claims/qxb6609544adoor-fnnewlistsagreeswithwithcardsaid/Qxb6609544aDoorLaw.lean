import Derived.Test.Qxb6609544aDoorInc
import Derived.Test.Qxb6609544aDoorOf
import Derived.Test.Qxb6609544aDoorSame
namespace Go.Proofs.Qxb6609544aDoor
open Go.RowKit

/-- What stands ahead of the loops: the entries, the lists made of them. -/
structure St (zp : Addr) (w : World) (g h lb : Nat) (L M : List (Int × Int)) (t s : Tr) : Prop where
  z : Zed w zp
  es : Ents zp w g 0 L
  ds : Ents zp w h 0 M
  slot : Slot w lb #[.pointer (pa t), .pointer (pa s)]
  inA : In zp w t
  inD : In zp w s
theorem St.below {zp : Addr} {w w' : World} {g h lb : Nat} {L M : List (Int × Int)} {t s : Tr} (k : St zp w g h lb L M t s) (b : RowKit.Below w.heap.size w w') : St zp w' g h lb L M t s :=
  ⟨k.z.below b, k.es.below b, k.ds.below b, k.slot.below b, k.inA.below b, k.inD.below b⟩

set_option maxRecDepth 100000 in
set_option maxHeartbeats 4000000 in
theorem law (zp : Addr) (a b : Option Addr) (n c m d : Nat) (L M : List (Int × Int)) (w : World) (hz : Zed w zp) (hL : Rs w a n L) (hM : Rs w b m M) (hn : (n : Int) ≤ 9223372036854775807) (hm : (m : Int) ≤ 9223372036854775807) (hxL : ∀ x ∈ L, Okx x) (hxM : ∀ x ∈ M, Okx x) :
    Calls Tryd.prog 4 #[.slice a n c, .slice b m d] w fun e w' => e = .returned (.bool true) ∧ Below w.heap.size w w' := by
  have HF : Hid (∀ V, RowKit.Below w.heap.size w V → Zed V zp ∧ Rs V a n L ∧ Rs V b m M) := fun V hV => ⟨hz.below hV, hL.below hV, hM.below hV⟩
  have HXL : Hid (∀ x ∈ L, Okx x) := hxL
  have HXM : Hid (∀ x ∈ M, Okx x) := hxM
  have C15 : Hid _ := zzbytes a b n c m d hn hm w
  have HLn : Hid (L.length = n) := hL.1
  have HMm : Hid (M.length = m) := hM.1
  clear hz hL hM hxL hxM
  go_enter Tryd.func4, Tryd.ntmps4
  go_wp2_with fail
  refine Calls.mono C15.out ?_
  rintro e w1 ⟨bb, rfl, hb1⟩
  have hB1 := hb1.below
  clear hb1 C15
  cases bb with
  | false =>
    go_wp2_with fail
    go_ret
    exact ⟨rfl, hB1⟩
  | true =>
    by_cases hn1 : (131072 : Int) < n
    · go_wp2_with fail
      go_ret
      exact ⟨rfl, hB1⟩
    by_cases hm1 : (131072 : Int) < m
    · go_wp2_with fail
      go_ret
      exact ⟨rfl, hB1⟩
    have hw1 : IntKind.i64.wrap (8 * (n : Int)) = 8 * (n : Int) := wrapI (by omega) (by omega)
    have hw2 : IntKind.i64.wrap (8 * (m : Int)) = 8 * (m : Int) := wrapI (by omega) (by omega)
    have hw3 : IntKind.i64.wrap (8 * (n : Int) + 8 * (m : Int)) = 8 * (n : Int) + 8 * (m : Int) := wrapI (by omega) (by omega)
    by_cases hs1 : (1048576 : Int) < 8 * (n : Int) + 8 * (m : Int)
    · go_wp2_with fail
      go_ret
      exact ⟨rfl, hB1⟩
    clear hw1 hw2 hw3 hn hm
    go_wp2_with fail
    have hF1 := HF.out w1 hB1
    refine Calls.mono (rangesOK a n c L w1 (by omega) hF1.2.1 HXL.out) ?_
    rintro e w2 ⟨bb, rfl, hb2⟩
    clear hF1
    have hB2 : RowKit.Below w.heap.size w w2 := hB1.trans (hb2.below.mono hB1.size)
    clear hb2
    cases bb with
    | false =>
      go_wp2_with fail
      go_ret
      exact ⟨rfl, hB2⟩
    | true =>
      go_wp2_with fail
      have hF2 := HF.out w2 hB2
      refine Calls.mono (rangesOK b m d M w2 (by omega) hF2.2.2 HXM.out) ?_
      rintro e w3 ⟨bb, rfl, hb3⟩
      clear hF2
      have hB3 : RowKit.Below w.heap.size w w3 := hB2.trans (hb3.below.mono hB2.size)
      clear hb3
      cases bb with
      | false =>
        go_wp2_with fail
        go_ret
        exact ⟨rfl, hB3⟩
      | true =>
        go_wp2_with fail
        have hF3 := HF.out w3 hB3
        refine Calls.mono (entriesOf zp a n c L w3 hF3.1 (by omega) hF3.2.1 HXL.out) ?_
        rintro e w4 ⟨g, rfl, hE4, hb4⟩
        clear hF3
        have hB4 : RowKit.Below w.heap.size w w4 := hB3.trans (hb4.below.mono hB3.size)
        clear hb4
        have HE4 : Hid (Ents zp w4 g 0 L) := hE4
        clear hE4
        go_wp2_with fail
        have hF4 := HF.out w4 hB4
        refine Calls.mono (entriesOf zp b m d M w4 hF4.1 (by omega) hF4.2.2 HXM.out) ?_
        rintro e w5 ⟨h, rfl, hD5, hb5⟩
        have hB5 : RowKit.Below w.heap.size w w5 := hB4.trans (hb5.below.mono hB4.size)
        have HE5 : Hid (Ents zp w5 g 0 L) := HE4.out.bel hb5
        have HD5 : Hid (Ents zp w5 h 0 M) := hD5
        clear hb5 hF4 HE4 hD5
        go_wp2_with fail
        refine Calls.mono (newLists zp (some ⟨g, 0, none⟩) (some ⟨h, 0, none⟩) n n m m L M w5 (HF.out w5 hB5).1 ⟨HLn.out, Or.inr ⟨g, 0, rfl, HE5.out⟩⟩ ⟨HMm.out, Or.inr ⟨h, 0, rfl, HD5.out⟩⟩ (by omega) (by omega) HXL.out HXM.out) ?_
        rintro e w6 ⟨lb, t, s, rfl, hl6, ht, hs⟩
        obtain ⟨t1, t2, t3, t4, t5⟩ := ht
        obtain ⟨s1, s2, s3, s4, s5⟩ := hs
        have hB6 : RowKit.Below w.heap.size w w6 := hB5.trans (t5.mono hB5.size)
        have HS6 : Hid (St zp w6 g h lb L M t s) := ⟨(HF.out w6 hB6).1, HE5.out.below t5, HD5.out.below t5, hl6, t1, s1⟩
        have HT : Hid (Bal t ∧ Srt (lst t) ∧ (∀ x, x ∈ lst t ↔ x ∈ L)) := ⟨t2, t3, t4⟩
        have HS : Hid (Bal s ∧ Srt (lst s) ∧ (∀ x, x ∈ lst s ↔ x ∈ M)) := ⟨s2, s3, s4⟩
        clear t1 t2 t3 t4 t5 s1 s2 s3 s4 s5 hl6 HE5 HD5 hB1 hB2 hB3 hB4 hB5
        go_wp2_with fail
        refine Calls.mono (incNew zp w6 HS6.out.z) ?_
        rintro e w7 ⟨ib, rfl, hI7, hb7⟩
        have hB7 : RowKit.Below w.heap.size w w7 := hB6.trans (hb7.mono hB6.size)
        have HS7 : Hid (St zp w7 g h lb L M t s) := HS6.out.below hb7
        have HI7 : Hid (Inc zp w7 ib [] []) := hI7
        clear hb7 hI7 HS6 hB6
        go_wp2_with fail
        go_loopw [8, 9] (fun s8 s9 wr => ∃ jb k : Nat, s8 = .pointer (some ⟨jb, 0, none⟩) ∧ s9 = .int .i64 k ∧ k ≤ n ∧ Inc zp wr jb (L.take k) [] ∧ RowKit.Below w7.heap.size w7 wr) (fun _ s9 _ => ((n : Int) - intOf s9).toNat)
        case atStart => exact ⟨ib, 0, rfl, rfl, Nat.zero_le _, by simpa using HI7.out, RowKit.Below.refl _ _⟩
        case round =>
          obtain ⟨jb, k, rfl, rfl, hk, hI, hb⟩ := hrel
          by_cases hlt : k < n
          · have hltI : (k : Int) < (n : Int) := by omega
            have hkL : k < L.length := by rw [HLn.out]; exact hlt
            have hSt := HS7.out.below hb
            obtain ⟨x, hx⟩ : ∃ x, L[k] = x := ⟨_, rfl⟩
            obtain ⟨e0, e1, e2, e3, e4, e5⟩ := hSt.es.six hkL hx
            have CC : Hid _ := incA zp x jb (L.take k) [] wr hSt.z hI (HXL.out x (hx ▸ List.getElem_mem hkL)) (by simp; omega)
            have HTK : Hid (L.take k ++ [x] = L.take (k + 1)) := by show _ = _; rw [← hx]; exact (List.take_succ_eq_append_getElem hkL).symm
            clear hSt hI hx
            simp only [Nat.zero_add] at e0 e1 e2 e3 e4 e5
            go_wp2_with fail
            refine Calls.mono CC.out ?_
            rintro e w8 ⟨nb, rfl, hI8, hb8⟩
            rw [HTK.out] at hI8
            clear CC e0 e1 e2 e3 e4 e5
            go_wp2_with fail
            go_roundw
            case rel => exact ⟨nb, k + 1, rfl, by go_num, by omega, hI8, hb.trans (hb8.mono hb.size)⟩
            case measure => simp [intOf]; omega
          · have hltI : ¬ (k : Int) < (n : Int) := by omega
            obtain rfl : n = k := by omega
            have hI2 : Inc zp wr jb L [] := by
              have := HLn.out
              rw [List.take_of_length_le (by omega)] at hI
              exact hI
            have HS8 : Hid (St zp wr g h lb L M t s) := HS7.out.below hb
            have hB8 : RowKit.Below w.heap.size w wr := hB7.trans (hb.mono hB7.size)
            have HI8 : Hid (Inc zp wr jb L []) := hI2
            clear hI hI2 HS7 HI7 hb hB7 hk hlt
            go_wp2_with fail
            clear hltI
            obtain ⟨W8, hW8⟩ : ∃ W, W = wr := ⟨_, rfl⟩
            subst hW8
            go_loopw [8, 10] (fun s8 s10 wq => ∃ jb j : Nat, s8 = .pointer (some ⟨jb, 0, none⟩) ∧ s10 = .int .i64 j ∧ j ≤ m ∧ Inc zp wq jb L (M.take j) ∧ RowKit.Below W8.heap.size W8 wq) (fun _ s10 _ => ((m : Int) - intOf s10).toNat)
            case atStart => exact ⟨jb, 0, rfl, rfl, Nat.zero_le _, by simpa using HI8.out, RowKit.Below.refl _ _⟩
            case round =>
              obtain ⟨ib2, j, rfl, rfl, hj, hI, hb⟩ := hrel
              by_cases hlt : j < m
              · have hltI : (j : Int) < (m : Int) := by omega
                have hjM : j < M.length := by rw [HMm.out]; exact hlt
                have hSt := HS8.out.below hb
                obtain ⟨x, hx⟩ : ∃ x, M[j] = x := ⟨_, rfl⟩
                obtain ⟨e0, e1, e2, e3, e4, e5⟩ := hSt.ds.six hjM hx
                have CC : Hid _ := incD zp x ib2 L (M.take j) wr hSt.z hI (HXM.out x (hx ▸ List.getElem_mem hjM)) (by simp; omega)
                have HTK : Hid (M.take j ++ [x] = M.take (j + 1)) := by show _ = _; rw [← hx]; exact (List.take_succ_eq_append_getElem hjM).symm
                clear hSt hI hx
                simp only [Nat.zero_add] at e0 e1 e2 e3 e4 e5
                go_wp2_with fail
                refine Calls.mono CC.out ?_
                rintro e w9 ⟨nb, rfl, hI9, hb9⟩
                rw [HTK.out] at hI9
                clear CC e0 e1 e2 e3 e4 e5
                go_wp2_with fail
                go_roundw
                case rel => exact ⟨nb, j + 1, rfl, by go_num, by omega, hI9, hb.trans (hb9.mono hb.size)⟩
                case measure => simp [intOf]; omega
              · have hltI : ¬ (j : Int) < (m : Int) := by omega
                obtain rfl : m = j := by omega
                have hI2 : Inc zp wr ib2 L M := by
                  have := HMm.out
                  rw [List.take_of_length_le (by omega)] at hI
                  exact hI
                have HS9 : Hid (St zp wr g h lb L M t s) := HS8.out.below hb
                have hB9 : RowKit.Below w.heap.size w wr := hB8.trans (hb.mono hB8.size)
                have HI9 : Hid (Inc zp wr ib2 L M) := hI2
                clear hI hI2 HS8 HI8 hb hB8 hj hlt
                go_wp2_with fail
                clear hltI
                obtain ⟨W9, hW9⟩ : ∃ W, W = wr := ⟨_, rfl⟩
                subst hW9
                go_loopw [11] (fun s11 wq => ∃ k : Nat, s11 = .int .i64 k ∧ k ≤ n ∧ Bel W9 wq) (fun s11 _ => ((n : Int) - intOf s11).toNat)
                case atStart => exact ⟨0, rfl, Nat.zero_le _, Bel.refl _⟩
                case round =>
                  obtain ⟨k, rfl, hk, hb⟩ := hrel
                  by_cases hlt : k < n
                  · have hltI : (k : Int) < (n : Int) := by omega
                    have hkL : k < L.length := by rw [HLn.out]; exact hlt
                    have hSt := HS9.out.below hb.below
                    obtain ⟨x, hx⟩ : ∃ x, L[k] = x := ⟨_, rfl⟩
                    have hxm : x ∈ lst t := (HT.out.2.2 x).2 (hx ▸ List.getElem_mem hkL)
                    have C13 : Hid (∀ p : Kin wr, Calls Tryd.prog 13 #[.pointer (some ⟨lb, 0, none⟩)] p.at' fun e w' => e = .returned (.agg #[.pointer (pa t)]) ∧ Bel p.at' w') := fun p => zzallow lb _ _ _ (hSt.slot.bel p.bel)
                    have C17 : Hid (∀ p : Kin wr, Calls Tryd.prog 17 #[.agg #[.pointer (pa t)], entV zp x.1 x.2] p.at' fun e w' => e = .returned (.bool true) ∧ Bel p.at' w') := fun p => Qxb6609544aDoor.holds zp x t _ (hSt.z.bel p.bel) (hSt.inA.bel p.bel) HT.out.2.1 hxm
                    have a' := fun p : Kin wr => (hSt.es.bel p.bel).six hkL hx
                    simp only [Nat.zero_add] at a'
                    have a0 := fun p => (a' p).1
                    have a1 := fun p => (a' p).2.1
                    have a2 := fun p => (a' p).2.2.1
                    have a3 := fun p => (a' p).2.2.2.1
                    have a4 := fun p => (a' p).2.2.2.2.1
                    have a5 := fun p => (a' p).2.2.2.2.2
                    have hT0 : (0 : Int) ≤ (k : Int) := by omega
                    have kne := kinNe wr
                    clear a' hSt hxm hx
                    go_wp2_with fail
                    refine wp_region_kin (by kernel_rfl) (by kernel_rfl) ?_
                    repeat (first | go_big_quiet_step (first | (go_at_call 13; exact kin_of (C13.out _)) | (go_at_call 17; exact kin_of (C17.out _))) | quiet_step (first | rfl | (go_at_call 13; exact kin_of (C13.out _)) | (go_at_call 17; exact kin_of (C17.out _))))
                    refine wpQuiet_nil ?_
                    intro W4 hw
                    obtain ⟨kk, hw⟩ := hw
                    have hbe := kk.bel
                    rw [← hw] at hbe
                    clear hw kk kne a0 a1 a2 a3 a4 a5 C13 C17
                    go_wp2_with fail
                    go_roundw
                    case rel => exact ⟨k + 1, by go_num, by omega, hb.trans hbe⟩
                    case measure => simp [intOf]; omega
                  · have hltI : ¬ (k : Int) < (n : Int) := by omega
                    have HSa : Hid (St zp wr g h lb L M t s) := HS9.out.below hb.below
                    have HIa : Hid (Inc zp wr ib2 L M) := HI9.out.below hb.below
                    have hBa : RowKit.Below w.heap.size w wr := hB9.trans (hb.below.mono hB9.size)
                    clear HS9 HI9 hB9 hb hk hlt
                    go_wp2_with fail
                    obtain ⟨ta, td, i1, i2, i3, i4, i5, i6, i7, i8, i9, i10, i11⟩ := HIa.out
                    have eA : lst ta = lst t := srt_ext i6 HT.out.2.1 (fun x => (i8 x).trans (HT.out.2.2 x).symm)
                    have eD : lst td = lst s := srt_ext i7 HS.out.2.1 (fun x => (i9 x).trans (HS.out.2.2 x).symm)
                    have hzA : siz t ≤ 1000000 := by rw [← siz_lst, ← eA]; have := HLn.out; omega
                    have hzD : siz s ≤ 1000000 := by rw [← siz_lst, ← eD]; have := HMm.out; omega
                    have HV : Hid (∀ V, RowKit.Below wr.heap.size wr V → St zp V g h lb L M t s ∧ Slot V ib2 #[.pointer (pa ta), .pointer (pa td)]) := fun V hV => ⟨HSa.out.below hV, i1.below hV⟩
                    have SA : Hid (∀ V, RowKit.Below wr.heap.size wr V → Calls Tryd.prog 18 #[.pointer (pa t), .pointer (pa ta)] V fun e w' => e = .returned (.bool true) ∧ RowKit.Below V.heap.size V w') := fun V hV => sameTree zp t ta V (HSa.out.z.below hV) (HSa.out.inA.below hV) (i2.below hV) HT.out.1 i4 HT.out.2.1 eA hzA (fun x hx => HXL.out x ((HT.out.2.2 x).1 hx))
                    have SD : Hid (∀ V, RowKit.Below wr.heap.size wr V → Calls Tryd.prog 18 #[.pointer (pa s), .pointer (pa td)] V fun e w' => e = .returned (.bool true) ∧ RowKit.Below V.heap.size V w') := fun V hV => sameTree zp s td V (HSa.out.z.below hV) (HSa.out.inD.below hV) (i3.below hV) HS.out.1 i5 HS.out.2.1 eD hzD (fun x hx => HXM.out x ((HS.out.2.2 x).1 hx))
                    clear HIa i1 i2 i3 i4 i5 i6 i7 i8 i9 i10 i11 eA eD hzA hzD HSa HT HS HXL HXM HLn HMm HF
                    have y0 : RowKit.Below wr.heap.size wr wr := RowKit.Below.refl _ _
                    refine Calls.mono (zzallow lb (pa t) (pa s) wr (HV.out wr y0).1.slot) ?_
                    rintro e x1 ⟨rfl, v1⟩
                    have y1 : RowKit.Below wr.heap.size wr x1 := y0.trans (v1.below.mono y0.size)
                    clear v1 y0
                    go_wp2_with fail
                    refine Calls.mono (zzroot (pa t) x1) ?_
                    rintro e x2 ⟨rfl, v2⟩
                    have y2 : RowKit.Below wr.heap.size wr x2 := y1.trans (v2.below.mono y1.size)
                    clear v2 y1
                    go_wp2_with fail
                    refine Calls.mono (zzallow ib2 (pa ta) (pa td) x2 (HV.out x2 y2).2) ?_
                    rintro e x3 ⟨rfl, v3⟩
                    have y3 : RowKit.Below wr.heap.size wr x3 := y2.trans (v3.below.mono y2.size)
                    clear v3 y2
                    go_wp2_with fail
                    refine Calls.mono (zzroot (pa ta) x3) ?_
                    rintro e x4 ⟨rfl, v4⟩
                    have y4 : RowKit.Below wr.heap.size wr x4 := y3.trans (v4.below.mono y3.size)
                    clear v4 y3
                    go_wp2_with fail
                    refine Calls.mono (SA.out x4 y4) ?_
                    rintro e x5 ⟨rfl, v5⟩
                    have y5 : RowKit.Below wr.heap.size wr x5 := y4.trans (v5.mono y4.size)
                    clear v5 y4
                    go_wp2_with fail
                    refine Calls.mono (zzdeny lb (pa t) (pa s) x5 (HV.out x5 y5).1.slot) ?_
                    rintro e x6 ⟨rfl, v6⟩
                    have y6 : RowKit.Below wr.heap.size wr x6 := y5.trans (v6.below.mono y5.size)
                    clear v6 y5
                    go_wp2_with fail
                    refine Calls.mono (zzroot (pa s) x6) ?_
                    rintro e x7 ⟨rfl, v7⟩
                    have y7 : RowKit.Below wr.heap.size wr x7 := y6.trans (v7.below.mono y6.size)
                    clear v7 y6
                    go_wp2_with fail
                    refine Calls.mono (zzdeny ib2 (pa ta) (pa td) x7 (HV.out x7 y7).2) ?_
                    rintro e x8 ⟨rfl, v8⟩
                    have y8 : RowKit.Below wr.heap.size wr x8 := y7.trans (v8.below.mono y7.size)
                    clear v8 y7
                    go_wp2_with fail
                    refine Calls.mono (zzroot (pa td) x8) ?_
                    rintro e x9 ⟨rfl, v9⟩
                    have y9 : RowKit.Below wr.heap.size wr x9 := y8.trans (v9.below.mono y8.size)
                    clear v9 y8
                    go_wp2_with fail
                    refine Calls.mono (SD.out x9 y9) ?_
                    rintro e x10 ⟨rfl, v10⟩
                    have y10 : RowKit.Below wr.heap.size wr x10 := y9.trans (v10.mono y9.size)
                    clear v10 y9
                    go_wp2_with fail
                    go_ret
                    exact ⟨rfl, hBa.trans (y10.mono hBa.size)⟩
end Go.Proofs.Qxb6609544aDoor
