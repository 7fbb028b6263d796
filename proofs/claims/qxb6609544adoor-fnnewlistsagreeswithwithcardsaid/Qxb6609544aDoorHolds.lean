import Derived.Test.Qxb6609544aDoorIns
namespace Go.Proofs.Qxb6609544aDoor
open Go.RowKit
open Go.Deep (BT)

/-- The size that a node bears. -/
def sizeAt (w : World) : Value → Nat
  | .pointer (some a) => (intOf ((w.cell? ⟨a.block, 8, none⟩).getD (.bool false))).toNat
  | _ => 0
theorem sizeAt_in {zp : Addr} {w : World} : ∀ {t : Tr}, In zp w t → sizeAt w (.pointer (pa t)) = siz t
  | .nil, _ => rfl
  | .node b o x l r, h => by
    have h8 := h.2.2.1 8
    simp only [sizeAt, pa, siz]
    rw [h8]
    simp [intOf]
    omega

set_option maxRecDepth 100000 in
set_option maxHeartbeats 4000000 in
theorem holds (zp : Addr) (x : Int × Int) (t : Tr) (w : World) (hz : Zed w zp) (hi : In zp w t) (hs : Srt (lst t)) (hm : x ∈ lst t) :
    Calls Tryd.prog 17 #[.agg #[.pointer (pa t)], entV zp x.1 x.2] w fun e w' => e = .returned (.bool true) ∧ Bel w w' := by
  have hW : Bel w ((w.alloc (.cells #[.pointer (pa t)] 33)).alloc (.cells #[.int .u64 0, .int .u64 (low x.1), .pointer (some zp), .int .u64 0, .int .u64 (low x.2), .pointer (some zp)] 49)) := ((Bel.refl _).alloc _).alloc _
  have HSL : Hid (Slot ((w.alloc (.cells #[.pointer (pa t)] 33)).alloc (.cells #[.int .u64 0, .int .u64 (low x.1), .pointer (some zp), .int .u64 0, .int .u64 (low x.2), .pointer (some zp)] 49)) (w.heap.size + 1) #[.int .u64 0, .int .u64 (low x.1), .pointer (some zp), .int .u64 0, .int .u64 (low x.2), .pointer (some zp)]) := by
    have := Slot.new (w.alloc (.cells #[.pointer (pa t)] 33)) #[.int .u64 0, .int .u64 (low x.1), .pointer (some zp), .int .u64 0, .int .u64 (low x.2), .pointer (some zp)] 49
    simp only [World.size_alloc] at this
    exact this
  have HZ : Hid (∀ V, Bel w V → Zed V zp) := fun V hV => hz.bel hV
  have hi0 := hi.bel hW
  have HS : Hid (Srt (lst t)) := hs
  have HM : Hid (x ∈ lst t) := hm
  have HI : Hid _ := hi0
  clear hz hi hs hm hi0
  go_enter Tryd.func17, Tryd.ntmps17
  go_wp2_with fail
  generalize (w.alloc (.cells #[.pointer (pa t)] 33)).alloc (.cells #[.int .u64 0, .int .u64 (low x.1), .pointer (some zp), .int .u64 0, .int .u64 (low x.2), .pointer (some zp)] 49) = W0 at *
  go_loopw [5] (fun i wr => ∃ s : Tr, i = .pointer (pa s) ∧ In zp wr s ∧ Srt (lst s) ∧ x ∈ lst s ∧ Bel W0 wr) (fun i wr => sizeAt wr i)
  case atStart => exact ⟨t, rfl, HI.out, HS.out, HM.out, Bel.refl _⟩
  case round =>
    obtain ⟨s, rfl, hin, hsrt, hmem, hb⟩ := hrel
    have hsz := sizeAt_in hin
    cases s with
    | nil => simp [lst] at hmem
    | node b o y l r =>
      obtain rfl : o = 0 := hin.1.1
      have hsz' : sizeAt wr (.pointer (pa (BT.node b 0 y l r))) = siz l + siz r + 1 := hsz
      have HSS : Hid (sizeAt wr (.pointer (some ⟨b, 0, none⟩)) = siz l + siz r + 1) := hsz
      have HC : Hid (∀ V, Bel wr V → ∀ j, V.cell? ⟨b, j, none⟩ = (ndC zp y (pa l) (pa r) (siz l + siz r + 1 : Nat) (mx (mx y.2 (rch l)) (rch r)))[j]?) := fun V hV => (hin.bel hV).2.2.1
      have HL : Hid (∀ V, Bel wr V → In zp V l) := fun V hV => hin.2.2.2.2.1.bel hV
      have HR : Hid (∀ V, Bel wr V → In zp V r) := fun V hV => hin.2.2.2.2.2.bel hV
      obtain ⟨hsl, hsr', hlr⟩ := List.pairwise_append.1 hsrt
      obtain ⟨hyr, hsr⟩ := List.pairwise_cons.1 hsr'
      have hml : cmpE x y < 0 → x ∈ lst l := fun h => by
        rcases List.mem_append.1 hmem with h1 | h1
        · exact h1
        rcases List.mem_cons.1 h1 with rfl | h2
        · rw [cmpE_eq.2 rfl] at h; omega
        · have := cmpE_flip.2 (hyr x h2); omega
      have hmr : 0 < cmpE x y → x ∈ lst r := fun h => by
        rcases List.mem_append.1 hmem with h1 | h1
        · have := hlr x h1 y (by simp); omega
        rcases List.mem_cons.1 h1 with rfl | h2
        · rw [cmpE_eq.2 rfl] at h; omega
        · exact h2
      have HML : Hid (cmpE x y < 0 → x ∈ lst l) := hml
      have HMR : Hid (0 < cmpE x y → x ∈ lst r) := hmr
      have HSl : Hid (Srt (lst l)) := hsl
      have HSr : Hid (Srt (lst r)) := hsr
      clear hin hsrt hmem hsz hsz' hsl hsr' hlr hyr hsr hml hmr
      have hpa : pa (BT.node b 0 y l r) = some ⟨b, 0, none⟩ := rfl
      rw [hpa]
      clear hpa
      have kne := kinNe wr
      have n1 : ∀ p : Kin wr, ∀ j, p.at'.cell? ⟨b, j, none⟩ = (ndC zp y (pa l) (pa r) (siz l + siz r + 1 : Nat) (mx (mx y.2 (rch l)) (rch r)))[j]? := fun p => HC.out _ p.bel
      have e1 : ∀ p : Kin wr, ∀ j, p.at'.cell? ⟨w.heap.size + 1, j, none⟩ = #[Value.int .u64 0, .int .u64 (low x.1), .pointer (some zp), .int .u64 0, .int .u64 (low x.2), .pointer (some zp)][j]? := fun p => (HSL.out.bel (hb.trans p.bel)).cell
      have KZ : Hid (∀ p : Kin wr, Zed p.at' zp) := fun p => HZ.out _ (hW.trans (hb.trans p.bel))
      go_wp2_with fail
      refine wp_region_kin (by kernel_rfl) (by kernel_rfl) ?_
      repeat (quiet_step (first | rfl | (go_at_call 32; exact kin_of (compare zp _ _ _ _ _ (KZ.out _)))))
      refine wpQuiet_nil ?_
      intro W1 hw
      obtain ⟨kk, hw⟩ := hw
      have hbe := kk.bel
      rw [← hw] at hbe
      clear hw kk n1 e1 KZ kne
      have c1 := HC.out _ hbe
      rcases (by omega : cmpE x y < 0 ∨ 0 < cmpE x y ∨ cmpE x y = 0) with hc | hc | hc
      · have hcc : cmpE (x.1, x.2) (y.1, y.2) < 0 := hc
        have hcn : ¬ cmpE (x.1, x.2) (y.1, y.2) = 0 := by have : cmpE (x.1, x.2) (y.1, y.2) < 0 := hc; omega
        go_wp2_with fail
        go_roundw
        case rel => exact ⟨l, rfl, HL.out _ hbe, HSl.out, HML.out hc, hb.trans hbe⟩
        case measure => rw [sizeAt_in (HL.out _ hbe), HSS.out]; omega
      · have hcc : 0 < cmpE (x.1, x.2) (y.1, y.2) := hc
        have hcn : ¬ cmpE (x.1, x.2) (y.1, y.2) = 0 := by have : 0 < cmpE (x.1, x.2) (y.1, y.2) := hc; omega
        have hcm : ¬ cmpE (x.1, x.2) (y.1, y.2) < 0 := by have : 0 < cmpE (x.1, x.2) (y.1, y.2) := hc; omega
        go_wp2_with fail
        go_roundw
        case rel => exact ⟨r, rfl, HR.out _ hbe, HSr.out, HMR.out hc, hb.trans hbe⟩
        case measure => rw [sizeAt_in (HR.out _ hbe), HSS.out]; omega
      · have hcc : cmpE (x.1, x.2) (y.1, y.2) = 0 := hc
        go_wp2_with fail
        go_ret
        exact ⟨rfl, hW.trans (hb.trans hbe)⟩
end Go.Proofs.Qxb6609544aDoor
