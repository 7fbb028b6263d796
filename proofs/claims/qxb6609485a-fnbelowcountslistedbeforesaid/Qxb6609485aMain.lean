import Derived.Test.Qxb6609485aAns
namespace Go.Proofs.Qxb6609485a
open Go.RowKit
open Go.Lib (compareBytes)

set_option maxHeartbeats 400000 in
theorem nokids (w : World) : Calls Try.prog 14 #[] w fun e w' => e = .returned (.slice none 0 0) ∧ w = w' := by
  go_enter Try.func14, Try.ntmps14
  go_wp2
  go_ret
  exact ⟨rfl, rfl⟩
set_option maxHeartbeats 400000 in
theorem nodocs (w : World) : Calls Try.prog 16 #[] w fun e w' => e = .returned (.slice none 0 0) ∧ w = w' := by
  go_enter Try.func16, Try.ntmps16
  go_wp2
  go_ret
  exact ⟨rfl, rfl⟩

set_option maxRecDepth 100000 in
set_option maxHeartbeats 4000000 in
theorem main_walk (a : Option Addr) (n cap : Nat) (ss : Nat → ByteArray) (sa : Option Addr) (sn sc : Nat) (zs : Nat → Int) (per : Int) (id : ByteArray) (inc : Bool) (w : World)
    (hs : Strs w a n ss) (hz : Byts w sa sn zs) (hid : id.size ≤ maxLen) (hp1 : -9223372036854775808 ≤ per) (hp2 : per ≤ 9223372036854775807) :
    Calls Try.prog 5 #[.slice a n cap, .slice sa sn sc, .int .i64 per, .string id, .bool inc] w fun e w' => e = .returned (.bool true) ∧ Below w.heap.size w w' := by
  have hn := hs.1
  have hsn := hz.1
  have HS : Hid (Strs w a n ss) := hs
  have HZ : Hid (Byts w sa sn zs) := hz
  clear hs hz
  have hid' := hid
  unfold maxLen at hn hsn hid'
  go_enter Try.func5, Try.ntmps5
  go_wp2_with fail
  refine (zzbytes a n cap ss sa sn sc per id inc _ HS.out HZ.out.1 hid).mono ?_
  rintro e w ⟨⟨r, rfl, hsz⟩, rfl⟩
  cases r
  · go_wp2_with fail
    go_ret
    exact ⟨rfl, Below.refl _ _⟩
  have HSZ : Hid _ := hsz rfl
  clear hsz
  by_cases g1 : 65536 < n
  · go_wp2_with fail
    go_ret
    exact ⟨rfl, Below.refl _ _⟩
  by_cases g2 : 65536 < sn
  · go_wp2_with fail
    go_ret
    exact ⟨rfl, Below.refl _ _⟩
  by_cases g3 : 65536 < id.size
  · go_wp2_with fail
    go_ret
    exact ⟨rfl, Below.refl _ _⟩
  go_wp2_with fail
  go_loop [11, 12] (fun t i => ∃ (k : Nat) (s : Int), k ≤ n ∧ 0 ≤ s ∧ s ≤ 4294967296 ∧ i = .int .i64 k ∧ t = .int .i64 s) (fun _ i => n - (intOf i).toNat)
  case atStart => exact ⟨0, _, Nat.zero_le _, by omega, by omega, rfl, rfl⟩
  case round =>
    obtain ⟨k, s, hk, hs0, hs1, rfl, rfl⟩ := hrel
    by_cases hlt : k < n
    · obtain ⟨b, off, rfl, hb, hc, hm⟩ := HS.out.2 k hlt
      have hm2 := HSZ.out k hlt
      go_wp2_with fail
      · go_ret
        exact ⟨rfl, Below.refl _ _⟩
      · go_round
        case rel => exact ⟨k + 1, _, by omega, by omega, by omega, by go_num, rfl⟩
        case measure => simp [intOf]; omega
    · by_cases g4 : 1048576 < s
      · go_wp2_with fail
        go_ret
        exact ⟨rfl, Below.refl _ _⟩
      by_cases g5 : n = sn
      · subst g5
        by_cases g6 : per < 1
        · go_wp2_with fail
          go_ret
          exact ⟨rfl, Below.refl _ _⟩
        go_wp2_with fail
        refine (increasing a n cap ss _ HS.out).mono ?_
        rintro e w1 ⟨⟨r, rfl, hinc⟩, hq⟩
        cases r
        · go_wp2_with fail
          go_ret
          exact ⟨rfl, hq.below _⟩
        have HI : Hid (Incr ss n) := hinc rfl
        have hb1 : Below w.heap.size w w1 := hq.below _
        clear hinc hq HSZ
        go_wp2_with fail
        refine (livein sa n sc zs 0 n 0 n _ (HZ.out.below hb1) (by omega) rfl (by simp)).mono ?_
        rintro e w2 ⟨rfl, rfl⟩
        have hlv := live_le zs 0 n
        generalize live zs 0 n = lvn at *
        go_wp2_with fail
        refine (zztree none 0 _).mono ?_
        rintro e w3 ⟨rfl, hw3⟩
        by_cases hn0 : n = 0
        · have e0 : (0 : Int) = (wantTo zs (condOf ss id inc) n : Nat) := by rw [hn0]; rfl
          have hcall := below_nil w2.heap.size id inc w3 (by rw [hw3]; simp) (by rw [hw3]; simp)
          rw [e0] at hcall
          have hb3 : Below w.heap.size w w3 := by rw [hw3]; exact hb1.alloc hb1.size _
          have hn1 : n ≤ 0 := by omega
          have HCL : Hid _ := hcall
          clear e0 hcall hn0 hw3 hb1
          go_wp2_with fail
          refine (zzbelow _ _ _ _ _ _ _ HCL.out).mono ?_
          rintro e w9 ⟨rfl, hb9'⟩
          have hb9 : Below w.heap.size w w9 := hb3.trans (hb9'.mono hb3.size)
          clear HCL hb9' hb3
          go_wp2_with fail
          go_loopw [24, 25] (fun wt i wx => ∃ j : Nat, j ≤ n ∧ i = .int .i64 j ∧ wt = .int .i64 (wantTo zs (condOf ss id inc) j : Nat) ∧ Below w.heap.size w wx) (fun _ i _ => n - (intOf i).toNat)
          case atStart => exact ⟨0, Nat.zero_le _, rfl, rfl, hb9⟩
          case round =>
            clear hb9
            obtain ⟨j, hj, rfl, rfl, hbx⟩ := hrel
            have hwl := wantTo_le zs (condOf ss id inc) j
            have e : j = n := by omega
            subst e
            go_wp2_with fail
            go_ret
            exact ⟨by simp, hbx⟩
        have hb3 : Below w.heap.size w w3 := by rw [hw3]; exact hb1.alloc hb1.size _
        clear hw3 hb1
        obtain ⟨P, hP⟩ : ∃ P : Nat, P = if per < n then per.toNat else n := ⟨_, rfl⟩
        have hP1 : 1 ≤ P := by rw [hP]; split <;> omega
        have hP2 : P ≤ n := by rw [hP]; split <;> omega
        have hP3 : ((P : Int) = per ∧ per < n) ∨ (P = n ∧ (n : Int) ≤ per) := by
          rw [hP]; split
          · left; omega
          · right; omega
        clear hP
        have HP3 : Hid _ := hP3
        clear hP3
        go_wp2_with fail
        refine (nokids _).mono ?_
        rintro e w4 ⟨rfl, hw4⟩
        subst hw4
        go_wp2_with fail
        refine (nodocs _).mono ?_
        rintro e w5 ⟨rfl, hw5⟩
        subst hw5
        go_wp2_with fail
        refine (zzleaf none 0 0 _).mono ?_
        rintro e w6 ⟨rfl, hw6⟩
        have hb6 : Below w.heap.size w w6 := by rw [hw6]; exact hb3.alloc hb3.size _
        clear hw6 hb3
        go_wp2_with fail
        go_loopw [16, 17, 18, 19] (fun kv lv ch st wr => ∃ c t : Nat, ch = .int .i64 c ∧ st = .int .i64 t ∧ t = min (c * P) n ∧ c * P < n + P ∧ Inv w n P ss zs c kv lv wr) (fun _ _ _ st _ => n - (intOf st).toNat)
        case atStart => exact ⟨0, 0, rfl, rfl, by simp, by omega, Inv.start n P ss zs _ hb6⟩
        case round =>
          clear hb6
          obtain ⟨c, t, rfl, rfl, ht, hcP, hInv⟩ := hrel
          have HT : Hid _ := ht
          have HV : Hid (Inv w n P ss zs c u16 u17 wr) := hInv
          clear ht hInv
          by_cases htn : t < n
          · have hcP2 : c * P = t := by have := HT.out; omega
            have hlen : lenOf n P c = min (t + P) n - t := by unfold lenOf; rw [Nat.add_mul, Nat.one_mul, hcP2]
            obtain ⟨len, hlen2⟩ : ∃ len, len = lenOf n P c := ⟨_, rfl⟩
            have hl1 : 1 ≤ len := by omega
            have hl2 : t + len ≤ n := by omega
            have HL : Hid _ := hlen2
            have HC : Hid _ := hcP2
            have hen : ((n : Int) - t > per ∧ (t : Int) + per ≤ t + len ∧ (t : Int) + len ≤ t + per) ∨ (¬ (n : Int) - t > per ∧ n ≤ t + len) := by
              rcases HP3.out with h | h <;> omega
            clear hlen hlen2 hcP2 HT
            obtain ⟨W1, hW1⟩ : ∃ W1, W1 = wr := ⟨_, rfl⟩
            subst hW1
            have hbW := HV.out.bel
            have HSW : Hid (Strs W1 a n ss) := HS.out.below hbW
            have HZW : Hid (Byts W1 sa n zs) := HZ.out.below hbW
            clear hbW
            obtain ⟨i46, hi46, hz0, hz1, hz2⟩ := info_parts info46
            obtain ⟨i50, hi50, hy0, hy1, hy2⟩ := info_parts info50
            have hcn : c ≤ 65536 := by have h0 := HC.out; have h1 := hP1; have : c * 1 ≤ c * P := Nat.mul_le_mul_left c h1; omega
            rcases hen with ⟨hgt, he1, he2⟩ | ⟨hgt, he1⟩
            all_goals
              go_wp2_with fail
              refine (nodocs _).mono ?_
              rintro e w7 ⟨rfl, hw7⟩
              subst hw7
              go_wp2_with fail
              go_loopw [21, 22] (fun v i wr => ∃ j : Nat, j ≤ len ∧ i = .int .i64 (t + j : Nat) ∧ InvD W1 t ss zs j v wr) (fun _ i _ => t + len - (intOf i).toNat)
              case atStart => exact ⟨0, Nat.zero_le _, rfl, InvD.start _ _ _ _⟩
              case round =>
                obtain ⟨j, hj, rfl, hD⟩ := hrel
                have HD : Hid (InvD W1 t ss zs j u21 wr) := hD
                clear hD
                by_cases hjl : j < len
                · have hbr := HD.out.bel
                  obtain ⟨b1, o1, hs1', hb1, hc1, hm1⟩ := (HSW.out.below hbr).2 (t + j) (by omega)
                  obtain ⟨b2, o2, hs2', hb2, hc2, hr1, hr2⟩ := (HZW.out.below hbr).2 (t + j) (by omega)
                  subst hs1' hs2'
                  clear hbr
                  by_cases hs0 : (zs (t + j) == 0) = true
                  · have hds : Hid (dsOf (zs (t + j)) = some false) := by show dsOf _ = _; unfold dsOf; rw [if_pos (by simpa using hs0)]
                    go_wp2_with fail
                    refine (zzdoc _ _ _).mono ?_
                    rintro e w8 ⟨lb, rfl, hb8, hl8⟩
                    obtain ⟨Ls, hown, hline, hbel⟩ := (HD.out.below hb8).below ((Below.refl w8.heap.size w8).alloc (Nat.le_refl _) (.cells #[.int .u64 (head (ss (t + j)) : Nat), .string (ss (t + j)), .slice (some ⟨lb, 0, none⟩) 1 1, .slice none 0 0, .int .i64 0, .int .u64 0] 46))
                    have HLN : Hid _ := hline
                    have HBL : Hid _ := hbel
                    have HLB : Hid _ := (heap_alloc_old w8 (.cells #[.int .u64 (head (ss (t + j)) : Nat), .string (ss (t + j)), .slice (some ⟨lb, 0, none⟩) 1 1, .slice none 0 0, .int .i64 0, .int .u64 0] 46) (Array.getElem?_eq_some_iff.1 hl8).1).trans hl8
                    clear hl8
                    have hzb : W1.heap.size ≤ w8.heap.size := Nat.le_trans HD.out.bel.size hb8.size
                    clear hline hbel hb8
                    go_wp2_with (at_builtin; refine wpList_append_own _ rfl (.tmp 114) (.tmp 120) 36 rfl W1.heap.size 46 i46 _ 6 88 Try.underlying36 hi46 hz0 hz1 hz2 rfl (by decide) _ j _ rfl hown ⟨w8.heap.size, 0, none⟩ 1 1 [.int .u64 (head (ss (t + j)) : Nat), .string (ss (t + j)), .slice (some ⟨lb, 0, none⟩) 1 1, .slice none 0 0, .int .i64 0, .int .u64 0] rfl rfl (news_at _ _ _) (by simp [Value.oneCell']) (by unfold maxLen; omega) (by omega) (by simp; omega) ?_; intro v' w9 ho9 hg9 _)
                    go_roundw
                    case rel => exact ⟨j + 1, by omega, by go_num, stepD hown HLN.out HBL.out (by rw [hds.out]; exact ⟨lb, rfl, HLB.out⟩) ho9 hg9⟩
                    case measure => simp [intOf]; omega
                  have hs0' : (zs (t + j) == 0) = false := by simpa using hs0
                  clear hs0
                  by_cases hs1 : (zs (t + j) == 1) = true
                  · have hds : Hid (dsOf (zs (t + j)) = some true) := by show dsOf _ = _; unfold dsOf; rw [if_neg (by simpa using hs0'), if_pos (by simpa using hs1)]
                    go_wp2_with fail
                    refine (zzdoc _ _ _).mono ?_
                    rintro e w8 ⟨lb, rfl, hb8, hl8⟩
                    obtain ⟨Ls, hown, hline, hbel⟩ := (HD.out.below hb8).below ((Below.refl w8.heap.size w8).alloc (Nat.le_refl _) (.cells #[.int .u64 (head (ss (t + j)) : Nat), .string (ss (t + j)), .slice (some ⟨lb, 0, none⟩) 1 1, .slice none 0 0, .int .i64 0, .int .u64 0] 46))
                    have HLN : Hid _ := hline
                    have HBL : Hid _ := hbel
                    have HLB : Hid _ := (heap_alloc_old w8 (.cells #[.int .u64 (head (ss (t + j)) : Nat), .string (ss (t + j)), .slice (some ⟨lb, 0, none⟩) 1 1, .slice none 0 0, .int .i64 0, .int .u64 0] 46) (Array.getElem?_eq_some_iff.1 hl8).1).trans hl8
                    clear hl8
                    have hzb : W1.heap.size ≤ w8.heap.size := Nat.le_trans HD.out.bel.size hb8.size
                    clear hline hbel hb8
                    go_wp2_with (at_builtin; refine wpList_append_own _ rfl (.tmp 127) (.tmp 133) 36 rfl W1.heap.size 46 i46 _ 6 88 Try.underlying36 hi46 hz0 hz1 hz2 rfl (by decide) _ j _ rfl hown ⟨w8.heap.size, 0, none⟩ 1 1 [.int .u64 (head (ss (t + j)) : Nat), .string (ss (t + j)), .slice (some ⟨lb, 0, none⟩) 1 1, .slice none 0 0, .int .i64 0, .int .u64 0] rfl rfl (news_at _ _ _) (by simp [Value.oneCell']) (by unfold maxLen; omega) (by omega) (by simp; omega) ?_; intro v' w9 ho9 hg9 _)
                    go_roundw
                    case rel => exact ⟨j + 1, by omega, by go_num, stepD hown HLN.out HBL.out (by rw [hds.out]; exact ⟨lb, rfl, HLB.out⟩) ho9 hg9⟩
                    case measure => simp [intOf]; omega
                  · have hs1' : (zs (t + j) == 1) = false := by simpa using hs1
                    clear hs1
                    have hds : Hid (dsOf (zs (t + j)) = none) := by show dsOf _ = _; unfold dsOf; rw [if_neg (by simpa using hs0'), if_neg (by simpa using hs1')]
                    go_wp2_with fail
                    refine (zzpurged _ _).mono ?_
                    rintro e w8 ⟨rfl, hb8⟩
                    obtain ⟨Ls, hown, hline, hbel⟩ := (HD.out.below hb8).below ((Below.refl w8.heap.size w8).alloc (Nat.le_refl _) (.cells #[.int .u64 (head (ss (t + j)) : Nat), .string (ss (t + j)), .slice none 0 0, .slice none 0 0, .int .i64 0, .int .u64 0] 46))
                    have HLN : Hid _ := hline
                    have HBL : Hid _ := hbel
                    have hzb : W1.heap.size ≤ w8.heap.size := Nat.le_trans HD.out.bel.size hb8.size
                    clear hline hbel hb8
                    go_wp2_with (at_builtin; refine wpList_append_own _ rfl (.tmp 135) (.tmp 141) 36 rfl W1.heap.size 46 i46 _ 6 88 Try.underlying36 hi46 hz0 hz1 hz2 rfl (by decide) _ j _ rfl hown ⟨w8.heap.size, 0, none⟩ 1 1 [.int .u64 (head (ss (t + j)) : Nat), .string (ss (t + j)), .slice none 0 0, .slice none 0 0, .int .i64 0, .int .u64 0] rfl rfl (news_at _ _ _) (by simp [Value.oneCell']) (by unfold maxLen; omega) (by omega) (by simp; omega) ?_; intro v' w9 ho9 hg9 _)
                    go_roundw
                    case rel => exact ⟨j + 1, by omega, by go_num, stepD hown HLN.out HBL.out (by rw [hds.out]; rfl) ho9 hg9⟩
                    case measure => simp [intOf]; omega
                · have e : j = len := by omega
                  subst e
                  obtain ⟨dg, dcap, hv⟩ := HD.out.slice (by omega)
                  subst hv
                  have hbr := HD.out.bel
                  obtain ⟨b1, o1, hs1', hb1, hc1, hm1⟩ := (HSW.out.below hbr).2 t (by omega)
                  obtain ⟨Lsn, hleaf⟩ := leaf_new HD.out (by omega)
                  obtain ⟨lps, vs, Lss, hA1, hA2, hA3⟩ := HV.out.open (hbr.trans (((Below.refl wr.heap.size wr).alloc (Nat.le_refl _) (.cells #[.int .u64 0, .slice (some ⟨dg, 0, none⟩) j dcap, .slice none 0 0] 59)).mono hbr.size))
                  have HZ8 : Hid (Byts (wr.alloc (.cells #[.int .u64 0, .slice (some ⟨dg, 0, none⟩) j dcap, .slice none 0 0] 59)) sa n zs) := (HZW.out.below hbr).below ((Below.refl wr.heap.size wr).alloc (Nat.le_refl _) _)
                  have HLF : Hid _ := hleaf
                  have HA1 : Hid _ := hA1
                  have HA2 : Hid _ := hA2
                  have HA3 : Hid _ := hA3
                  subst hs1'
                  clear hleaf hA1 hA2 hA3 hbr
                  go_wp2_with fail
                  refine (zzleaf _ _ _ _).mono ?_
                  rintro e w8 ⟨rfl, hw8⟩
                  have c8 : w8.cell? ⟨b1, o1 + t, none⟩ = some (.string (ss t)) := by rw [hw8]; exact (World.cell?_alloc_lt _ _ _ hb1).trans hc1
                  rw [← hw8] at HLF HA1 HA2 HA3 HZ8
                  have hz8 : w8.heap.size = wr.heap.size + 1 := by rw [hw8]; simp
                  have HZS : Hid _ := hz8
                  clear hw8 hc1 hz8
                  have HZD : Hid (Byts w8.drew sa n zs) := HZ8.out.below (Below.refl _ w8).drew
                  have hlj := live_le zs t j
                  go_wp2_with fail
                  go_region_law (first | (refine step_append_own rfl (.tmp 145) (.tmp 156) 32 rfl w.heap.size 50 i50 _ 4 40 Try.underlying32 hi50 hy0 hy1 hy2 rfl (by decide) u16 c _ (by simp [Act.eval]) HO9.out ⟨w9.heap.size, 0, none⟩ 1 1 [.pointer (some ⟨wr.heap.size, 0, none⟩), .int .i64 (live zs t j : Nat), .int .u64 (head (ss t) : Nat), .string (ss t)] (by simp [Act.eval]) rfl (news_at _ _ _) (by simp [Value.oneCell']) (by unfold maxLen; omega) (by omega) (by simp; omega) ?_; intro kv' w10 ho10 hg10 _) | (go_simp; go_at_call 12; refine (livein sa n sc zs t j _ _ _ HZD.out (by omega) rfl (by omega)).mono ?_; rintro e wq ⟨rfl, rfl⟩) | (go_simp; go_at_call 19; refine (zzchild _ _ _ _).mono ?_; rintro e w9 ⟨rfl, hb9⟩; have HO9 : Hid _ := owns_below HA2.out ((bel_drew hb9).alloc (bel_drew hb9).size (.cells #[.pointer (some ⟨wr.heap.size, 0, none⟩), .int .i64 (live zs t j : Nat), .int .u64 (head (ss t) : Nat), .string (ss t)] 50)); have hz9 := (bel_drew hb9).size; have hzw := HA3.out.size))
                  all_goals
                    have hI := stepC' HC.out HL.out HA1.out HO9.out HA3.out ((bel_drew hb9).alloc (bel_drew hb9).size _) HLF.out ho10 hg10
                    have HI2 : Hid _ := hI
                    have hnt := next_t HC.out HL.out htn
                    have HNT : Hid _ := hnt
                    clear hI hnt ho10 hg10 hb9
                    go_wp2_with fail
                    go_roundw
                    case rel => exact ⟨c + 1, t + j, by go_num, congrArg (Value.int .i64) (by omega), HNT.out.1, HNT.out.2, HI2.out⟩
                    case measure => simp [intOf]; omega
          · have hnc : n ≤ c * P := by have := HT.out; omega
            have hcn0 : c ≠ 0 := by intro h; subst h; omega
            clear HT
            by_cases hc1 : c = 1
            · subst hc1
              obtain ⟨p, hlv, hcall⟩ := answer_one id inc (lvn : Int) HV.out HI.out (by omega) (by omega) (by omega)
              have HCL : Hid _ := hcall
              subst hlv
              have hbi := HV.out.bel
              clear hcall
              go_wp2_with fail
              refine (zztree _ _ _).mono ?_
              rintro e w8 ⟨rfl, hw8⟩
              subst hw8
              go_wp2_with fail
              refine (zzbelow _ _ _ _ _ _ _ HCL.out).mono ?_
              rintro e w9 ⟨rfl, hb9'⟩
              have hb9 : Below w.heap.size w w9 := (hbi.alloc hbi.size _).trans (hb9'.mono (by have := hbi.size; simp; omega))
              clear HCL hb9' hbi HV
              go_wp2_with fail
              go_loopw [24, 25] (fun wt i wx => ∃ j : Nat, j ≤ n ∧ i = .int .i64 j ∧ wt = .int .i64 (wantTo zs (condOf ss id inc) j : Nat) ∧ Below w.heap.size w wx) (fun _ i _ => n - (intOf i).toNat)
              case atStart => exact ⟨0, Nat.zero_le _, rfl, rfl, hb9⟩
              case round =>
                clear hb9
                obtain ⟨j, hj, rfl, rfl, hbx⟩ := hrel
                have hwl := wantTo_le zs (condOf ss id inc) j
                by_cases hjn : j < n
                · obtain ⟨b1, o1, hs1', hb1, hc1, hm1⟩ := (HS.out.below hbx).2 j hjn
                  obtain ⟨b2, o2, hs2', hb2, hc2, hr1, hr2⟩ := (HZ.out.below hbx).2 j hjn
                  subst hs1' hs2'
                  by_cases hs0 : (zs j != 0) = true
                  · have hsk := want_skip zs (condOf ss id inc) j (fun h => by simp at hs0; exact hs0 h.1)
                    have HSK : Hid _ := hsk
                    clear hsk
                    go_wp2_with fail
                    go_roundw
                    case rel => exact ⟨j + 1, by omega, by go_num, by rw [HSK.out], hbx⟩
                    case measure => simp [intOf]; omega
                  · have hs0' : (zs j != 0) = false := by simpa using hs0
                    have hzj : Hid (zs j = 0) := by show zs j = 0; simpa using hs0
                    clear hs0
                    go_wp2_with fail
                    refine (bytecmp _ _ _ hm1 hid).mono ?_
                    rintro e wy ⟨rfl, hqy⟩
                    have hby : Below w.heap.size w wy := hbx.trans (hqy.below _)
                    have ho : Hid (compareBytes (ss j).data.toList id.data.toList = ordAt ss id j) := rfl
                    rw [ho.out]
                    clear ho hqy hbx hc1 hc2
                    by_cases q1 : ordAt ss id j < 0
                    · have htk := want_take zs (condOf ss id inc) j ⟨hzj.out, by unfold condOf; simp [q1]⟩
                      have HTK : Hid _ := htk
                      clear htk
                      go_wp2_with fail
                      go_roundw
                      case rel => exact ⟨j + 1, by omega, by go_num, by rw [HTK.out]; go_num, hby⟩
                      case measure => simp [intOf]; omega
                    · by_cases q2 : ordAt ss id j = 0
                      · have q2' : (ordAt ss id j == 0) = true := by simpa using q2
                        have HQ2 : Hid _ := q2
                        clear q2
                        cases inc
                        · have htk := want_skip zs (condOf ss id false) j (fun h => by have := h.2; unfold condOf at this; simp [q1] at this)
                          have HTK : Hid _ := htk
                          clear htk
                          go_wp2_with fail
                          go_roundw
                          case rel => exact ⟨j + 1, by omega, by go_num, by rw [HTK.out], hby⟩
                          case measure => simp [intOf]; omega
                        · have htk := want_take zs (condOf ss id true) j ⟨hzj.out, by unfold condOf; simp [HQ2.out]⟩
                          have HTK : Hid _ := htk
                          clear htk
                          go_wp2_with fail
                          go_roundw
                          case rel => exact ⟨j + 1, by omega, by go_num, by rw [HTK.out]; go_num, hby⟩
                          case measure => simp [intOf]; omega
                      · have q2' : (ordAt ss id j == 0) = false := by simpa using q2
                        have htk := want_skip zs (condOf ss id inc) j (fun h => by have := h.2; unfold condOf at this; simp [q1, q2] at this)
                        have HTK : Hid _ := htk
                        clear htk q2
                        go_wp2_with fail
                        go_roundw
                        case rel => exact ⟨j + 1, by omega, by go_num, by rw [HTK.out], hby⟩
                        case measure => simp [intOf]; omega
                · have e : j = n := by omega
                  subst e
                  go_wp2_with fail
                  go_ret
                  exact ⟨by simp, hbx⟩
            · obtain ⟨m, rfl⟩ : ∃ m, c = m + 1 := ⟨c - 1, by omega⟩
              have hmP : m * P < n := by rw [Nat.add_mul, Nat.one_mul] at hcP; omega
              obtain ⟨g, kcap, hkv, hcall⟩ := answer_many id inc (lvn : Int) HV.out HI.out (by omega) hP1 (by omega) hmP hnc
              have HCL : Hid _ := hcall
              subst hkv
              clear hcall hcP hnc hmP HV
              have hce : (((m + 1 : Nat) : Int) == 1) = false := beq_eq_false_iff_ne.2 (by omega)
              go_wp2_with fail
              refine (zzinner _ _ _ _).mono ?_
              rintro e w8 ⟨rfl, hw8⟩
              subst hw8
              go_wp2_with fail
              refine (zztree _ _ _).mono ?_
              rintro e w8 ⟨rfl, hw8⟩
              subst hw8
              go_wp2_with fail
              refine (zzbelow _ _ _ _ _ _ _ HCL.out).mono ?_
              rintro e w9 ⟨rfl, hb9⟩
              clear HCL
              go_wp2_with fail
              go_loopw [24, 25] (fun wt i wx => ∃ j : Nat, j ≤ n ∧ i = .int .i64 j ∧ wt = .int .i64 (wantTo zs (condOf ss id inc) j : Nat) ∧ Below w.heap.size w wx) (fun _ i _ => n - (intOf i).toNat)
              case atStart => exact ⟨0, Nat.zero_le _, rfl, rfl, hb9⟩
              case round =>
                clear hb9
                obtain ⟨j, hj, rfl, rfl, hbx⟩ := hrel
                have hwl := wantTo_le zs (condOf ss id inc) j
                by_cases hjn : j < n
                · obtain ⟨b1, o1, hs1', hb1, hc1, hm1⟩ := (HS.out.below hbx).2 j hjn
                  obtain ⟨b2, o2, hs2', hb2, hc2, hr1, hr2⟩ := (HZ.out.below hbx).2 j hjn
                  subst hs1' hs2'
                  by_cases hs0 : (zs j != 0) = true
                  · have hsk := want_skip zs (condOf ss id inc) j (fun h => by simp at hs0; exact hs0 h.1)
                    have HSK : Hid _ := hsk
                    clear hsk
                    go_wp2_with fail
                    go_roundw
                    case rel => exact ⟨j + 1, by omega, by go_num, by rw [HSK.out], hbx⟩
                    case measure => simp [intOf]; omega
                  · have hs0' : (zs j != 0) = false := by simpa using hs0
                    have hzj : Hid (zs j = 0) := by show zs j = 0; simpa using hs0
                    clear hs0
                    go_wp2_with fail
                    refine (bytecmp _ _ _ hm1 hid).mono ?_
                    rintro e wy ⟨rfl, hqy⟩
                    have hby : Below w.heap.size w wy := hbx.trans (hqy.below _)
                    have ho : Hid (compareBytes (ss j).data.toList id.data.toList = ordAt ss id j) := rfl
                    rw [ho.out]
                    clear ho hqy hbx hc1 hc2
                    by_cases q1 : ordAt ss id j < 0
                    · have htk := want_take zs (condOf ss id inc) j ⟨hzj.out, by unfold condOf; simp [q1]⟩
                      have HTK : Hid _ := htk
                      clear htk
                      go_wp2_with fail
                      go_roundw
                      case rel => exact ⟨j + 1, by omega, by go_num, by rw [HTK.out]; go_num, hby⟩
                      case measure => simp [intOf]; omega
                    · by_cases q2 : ordAt ss id j = 0
                      · have q2' : (ordAt ss id j == 0) = true := by simpa using q2
                        have HQ2 : Hid _ := q2
                        clear q2
                        cases inc
                        · have htk := want_skip zs (condOf ss id false) j (fun h => by have := h.2; unfold condOf at this; simp [q1] at this)
                          have HTK : Hid _ := htk
                          clear htk
                          go_wp2_with fail
                          go_roundw
                          case rel => exact ⟨j + 1, by omega, by go_num, by rw [HTK.out], hby⟩
                          case measure => simp [intOf]; omega
                        · have htk := want_take zs (condOf ss id true) j ⟨hzj.out, by unfold condOf; simp [HQ2.out]⟩
                          have HTK : Hid _ := htk
                          clear htk
                          go_wp2_with fail
                          go_roundw
                          case rel => exact ⟨j + 1, by omega, by go_num, by rw [HTK.out]; go_num, hby⟩
                          case measure => simp [intOf]; omega
                      · have q2' : (ordAt ss id j == 0) = false := by simpa using q2
                        have htk := want_skip zs (condOf ss id inc) j (fun h => by have := h.2; unfold condOf at this; simp [q1, q2] at this)
                        have HTK : Hid _ := htk
                        clear htk q2
                        go_wp2_with fail
                        go_roundw
                        case rel => exact ⟨j + 1, by omega, by go_num, by rw [HTK.out], hby⟩
                        case measure => simp [intOf]; omega
                · have e : j = n := by omega
                  subst e
                  go_wp2_with fail
                  go_ret
                  exact ⟨by simp, hbx⟩
      · have g5' : ((sn : Int) != (n : Int)) = true := by rw [bne_iff_ne]; omega
        go_wp2_with fail
        go_ret
        exact ⟨rfl, Below.refl _ _⟩
end Go.Proofs.Qxb6609485a
