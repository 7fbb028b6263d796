import Derived.Test.Qxb6609485aRows
import Derived.Test.Qxb6609485aPlain
import Derived.WalkKit
import Derived.WalkSpells
import Derived.WalkLawsBesides
import Derived.BigQuiet
import Derived.Deep.QuietTactic
namespace Go.Proofs.Qxb6609485a
open Go.RowKit
open Go.Lib (compareBytes)

theorem ret_int {k : IntKind} {a b : Int} (h : a = b) : Ending.returned (.int k a) = .returned (.int k b) := by rw [h]
/-- Draws alone part the two worlds. -/
def Qt (w w' : World) : Prop := ∃ n, w' = w.drewN n
theorem Qt.refl (w : World) : Qt w w := ⟨0, rfl⟩
theorem Qt.drewN {a b : World} (h : Qt a b) (n : Nat) : Qt a (b.drewN n) := by
  obtain ⟨m, rfl⟩ := h
  exact ⟨m + n, by simp⟩
theorem Qt.trans {a b c : World} (h : Qt a b) (k : Qt b c) : Qt a c := by
  obtain ⟨m, rfl⟩ := k
  exact h.drewN m
theorem Qt.below {a b : World} (h : Qt a b) (B : Nat) : Below B a b := by
  obtain ⟨m, rfl⟩ := h
  exact below_drewN (Below.refl _ _) m

set_option maxHeartbeats 400000 in
theorem bytecmp (a b : ByteArray) (w : World) (ha : a.size ≤ maxLen) (hb : b.size ≤ maxLen) :
    Calls Try.prog 8 #[.string a, .string b] w fun e w' => e = .returned (.int .i64 (compareBytes a.data.toList b.data.toList)) ∧ Qt w w' := by
  unfold maxLen at ha hb
  by_cases hlt : b.size < a.size
  all_goals
    go_enter Try.func8, Try.ntmps8
    go_wp2
    go_loopw [6] (fun i wr => ∃ k : Nat, k ≤ a.size ∧ k ≤ b.size ∧ i = .int .i64 k ∧ Qt w wr ∧ compareBytes (a.data.toList.drop k) (b.data.toList.drop k) = compareBytes a.data.toList b.data.toList) (fun i _ => a.size - (intOf i).toNat)
    case atStart => exact ⟨0, Nat.zero_le _, Nat.zero_le _, rfl, Qt.refl _, rfl⟩
    case round =>
      obtain ⟨k, hk1, hk2, rfl, hn, hq⟩ := hrel
      have HQ : Hid (compareBytes (a.data.toList.drop k) (b.data.toList.drop k) = compareBytes a.data.toList b.data.toList) := hq
      clear hq
      by_cases hk : k < a.size ∧ k < b.size
      · obtain ⟨hka, hkb⟩ := hk
        go_wp2
        go_quiet (fail)
        go_wp2
        · go_ret
          exact ⟨ret_int (cb_lt a b k hka hkb (by assumption) HQ.out).symm, hn.drewN _⟩
        · go_quiet (fail)
          go_wp2
          · go_ret
            exact ⟨ret_int (cb_gt a b k hka hkb (by assumption) HQ.out).symm, (hn.drewN _).drewN _⟩
          · go_roundw
            case rel => exact ⟨k + 1, by omega, by omega, by go_num, hn.drewN _, cb_eq a b k hka hkb (by omega) (by omega) HQ.out⟩
            case measure => simp [intOf]; omega
      · have HE : Hid _ := cb_end a b k hk1 hk2 hk HQ.out
        have hk' : (k : Int) = a.size ∨ (k : Int) = b.size := by omega
        go_wp2
        all_goals
          go_ret
          exact ⟨ret_int (by rw [HE.out]; first | rw [if_pos (by omega)] | rw [if_neg (by omega), if_pos (by omega)] | rw [if_neg (by omega), if_neg (by omega)]), hn⟩
/-- What a '[]string' that came in is to the walk: cell i behind its address holds the string 'ss i'. -/
def Strs (w : World) (a : Option Addr) (n : Nat) (ss : Nat → ByteArray) : Prop :=
  n ≤ maxLen ∧ ∀ i, i < n → ∃ b off, a = some ⟨b, off, none⟩ ∧ b < w.heap.size ∧ w.cell? ⟨b, off + i, none⟩ = some (.string (ss i)) ∧ (ss i).size ≤ maxLen
/-- A '[]byte' that came in. -/
def Byts (w : World) (a : Option Addr) (n : Nat) (zs : Nat → Int) : Prop :=
  n ≤ maxLen ∧ ∀ i, i < n → ∃ b off, a = some ⟨b, off, none⟩ ∧ b < w.heap.size ∧ w.cell? ⟨b, off + i, none⟩ = some (.int .u8 (zs i)) ∧ 0 ≤ zs i ∧ zs i ≤ 255
theorem Strs.below {w w' : World} {a : Option Addr} {n : Nat} {ss : Nat → ByteArray} (h : Strs w a n ss) (k : Below w.heap.size w w') : Strs w' a n ss := by
  refine ⟨h.1, fun i hi => ?_⟩
  obtain ⟨b, off, e, hb, hc, hm⟩ := h.2 i hi
  exact ⟨b, off, e, Nat.lt_of_lt_of_le hb k.size, (k.cell hb).trans hc, hm⟩
theorem Byts.below {w w' : World} {a : Option Addr} {n : Nat} {zs : Nat → Int} (h : Byts w a n zs) (k : Below w.heap.size w w') : Byts w' a n zs := by
  refine ⟨h.1, fun i hi => ?_⟩
  obtain ⟨b, off, e, hb, hc, hm⟩ := h.2 i hi
  exact ⟨b, off, e, Nat.lt_of_lt_of_le hb k.size, (k.cell hb).trans hc, hm⟩

/-- How many of the states lo .. hi - 1 are 0. -/
def live (zs : Nat → Int) (lo : Nat) : Nat → Nat
  | 0 => 0
  | m + 1 => live zs lo m + if zs (lo + m) = 0 then 1 else 0
theorem live_le (zs : Nat → Int) (lo m : Nat) : live zs lo m ≤ m := by
  induction m with
  | zero => exact Nat.le_refl _
  | succ m ih => unfold live; split <;> omega

theorem live_hit (zs : Nat → Int) (lo k : Nat) (h : (zs (lo + k) == 0) = true) : live zs lo (k + 1) = live zs lo k + 1 := by
  rw [live, if_pos (by simpa using h)]
theorem live_miss (zs : Nat → Int) (lo k : Nat) (h : (zs (lo + k) == 0) = false) : live zs lo (k + 1) = live zs lo k := by
  rw [live, if_neg (by simpa using h)]; rfl

set_option maxHeartbeats 400000 in
theorem livein (a : Option Addr) (n cap : Nat) (zs : Nat → Int) (lo m : Nat) (l h : Int) (w : World) (hz : Byts w a n zs) (hm : lo + m ≤ n) (hl : l = lo) (hh : h = (lo + m : Nat)) :
    Calls Try.prog 12 #[.slice a n cap, .int .i64 l, .int .i64 h] w fun e w' => e = .returned (.int .i64 (live zs lo m)) ∧ w' = w := by
  subst hl hh
  obtain ⟨hn, hz⟩ := hz
  unfold maxLen at hn
  go_enter Try.func12, Try.ntmps12
  go_wp2
  go_loop [7, 8] (fun c i => ∃ k : Nat, k ≤ m ∧ i = .int .i64 (lo + k : Nat) ∧ c = .int .i64 (live zs lo k)) (fun _ i => lo + m - (intOf i).toNat)
  case atStart => exact ⟨0, Nat.zero_le _, rfl, rfl⟩
  case round =>
    obtain ⟨k, hk, rfl, rfl⟩ := hrel
    have hle := live_le zs lo k
    by_cases hlt : k < m
    · obtain ⟨b, off, rfl, hb, hc, hr⟩ := hz (lo + k) (by omega)
      clear hz
      go_wp2
      · go_round
        case rel => exact ⟨k + 1, by omega, by go_num, by rw [live_hit zs lo k (by assumption)]; go_num⟩
        case measure => simp [intOf]; omega
      · go_round
        case rel => exact ⟨k + 1, by omega, by go_num, by rw [live_miss zs lo k (by assumption)]⟩
        case measure => simp [intOf]; omega
    · clear hz
      have e : k = m := by omega
      subst e
      go_wp2
      go_ret
      exact ⟨rfl, rfl⟩

/-! ### zzBytes -/
/-- It hands back a bool, and where that is true each string is short. -/
def IsB (n : Nat) (ss : Nat → ByteArray) (e : Ending) : Prop := ∃ r, e = .returned (.bool r) ∧ (r = true → ∀ j, j < n → (ss j).size ≤ 1048576)
theorem isB (n : Nat) (ss : Nat → ByteArray) : IsB n ss (.returned (.bool false)) := ⟨false, rfl, fun h => by cases h⟩
set_option maxHeartbeats 400000 in
theorem zzbytes (a : Option Addr) (n cap : Nat) (ss : Nat → ByteArray) (sa : Option Addr) (sn sc : Nat) (per : Int) (id : ByteArray) (inc : Bool) (w : World)
    (hs : Strs w a n ss) (hsn : sn ≤ maxLen) (hid : id.size ≤ maxLen) :
    Calls Try.prog 10 #[.slice a n cap, .slice sa sn sc, .int .i64 per, .string id, .bool inc] w fun e w' => IsB n ss e ∧ w' = w := by
  obtain ⟨hn, hs⟩ := hs
  unfold maxLen at hn hsn hid
  by_cases h1 : 1048576 < n
  · go_enter Try.func10, Try.ntmps10
    go_wp2
    go_ret
    exact ⟨isB _ _, rfl⟩
  go_enter Try.func10, Try.ntmps10
  go_wp2
  go_loop [11, 12] (fun t i => ∃ (k : Nat) (s : Int), k ≤ n ∧ 0 ≤ s ∧ s ≤ 1048576 ∧ i = .int .i64 k ∧ t = .int .i64 s ∧ ∀ j, j < k → (ss j).size ≤ 1048576) (fun _ i => n - (intOf i).toNat)
  case atStart => exact ⟨0, n, Nat.zero_le _, by omega, by omega, rfl, rfl, fun j hj => by omega⟩
  case round =>
    obtain ⟨k, s, hk, hs0, hs1, rfl, rfl, hall⟩ := hrel
    have HA : Hid _ := hall
    clear hall
    by_cases hlt : k < n
    · obtain ⟨b, off, rfl, hb, hc, hm⟩ := hs k hlt
      clear hs
      unfold maxLen at hm
      go_wp2
      · go_ret
        exact ⟨isB _ _, rfl⟩
      · go_ret
        exact ⟨isB _ _, rfl⟩
      · have hsz : ((ss k).size : Int) ≤ 1048576 := by assumption
        go_round
        case rel =>
          refine ⟨k + 1, _, by omega, by omega, by assumption, by go_num, rfl, fun j hj => ?_⟩
          by_cases e : j = k
          · rw [e]; omega
          · exact HA.out j (by omega)
        case measure => simp [intOf]; omega
    · clear hs
      have e : k = n := by omega
      subst e
      go_wp2
      all_goals
        go_ret
        first | exact ⟨isB _ _, rfl⟩ | exact ⟨⟨true, rfl, fun _ => HA.out⟩, rfl⟩

/-! ### zzStrictlyIncreasing -/
/-- Each of the first m strings lies before the next. -/
def Incr (ss : Nat → ByteArray) (m : Nat) : Prop := ∀ i, i + 1 < m → compareBytes (ss i).data.toList (ss (i + 1)).data.toList < 0

set_option maxHeartbeats 400000 in
theorem increasing (a : Option Addr) (n cap : Nat) (ss : Nat → ByteArray) (w : World) (hs : Strs w a n ss) :
    Calls Try.prog 11 #[.slice a n cap] w fun e w' => (∃ r, e = .returned (.bool r) ∧ (r = true → Incr ss n)) ∧ Qt w w' := by
  obtain ⟨hn, hs⟩ := hs
  unfold maxLen at hn
  go_enter Try.func11, Try.ntmps11
  go_wp2
  go_loopw [3] (fun i wr => ∃ k : Nat, (k ≤ n ∨ k = 1) ∧ 1 ≤ k ∧ i = .int .i64 k ∧ Qt w wr ∧ Incr ss k) (fun i _ => n - (intOf i).toNat)
  case atStart => exact ⟨1, Or.inr rfl, Nat.le_refl _, rfl, Qt.refl _, fun i hi => by omega⟩
  case round =>
    obtain ⟨k, hk, hk1, rfl, hq, hI⟩ := hrel
    have HI : Hid (Incr ss k) := hI
    clear hI
    by_cases hlt : k < n
    · obtain ⟨b, off, rfl, hb, hc, hm⟩ := hs k hlt
      obtain ⟨b', off', e, hb', hc', hm'⟩ := hs (k - 1) (by omega)
      cases e
      clear hs
      have hb2 := hq.below w.heap.size
      have g1 : wr.cell? ⟨b, off + k, none⟩ = _ := (hb2.cell hb).trans hc
      have g2 : wr.cell? ⟨b, off + (k - 1), none⟩ = _ := (hb2.cell hb).trans hc'
      clear hb2 hc hc'
      go_wp2
      go_quiet ((go_at_call 8; exact Calls.quiet_of (bytecmp _ _ _ hm' hm)))
      go_wp2
      · go_ret
        exact ⟨⟨_, rfl, fun h => by cases h⟩, hq.drewN _⟩
      · have hc : compareBytes (ss (k - 1)).data.toList (ss k).data.toList < 0 := by assumption
        go_roundw
        case rel =>
          refine ⟨k + 1, Or.inl (by omega), by omega, by go_num, hq.drewN _, fun i hi => ?_⟩
          by_cases e : i + 1 = k
          · subst e; exact hc
          · exact HI.out i (by omega)
        case measure => simp [intOf]; omega
    · clear hs
      go_wp2
      go_ret
      exact ⟨⟨_, rfl, fun _ i hi => HI.out i (by omega)⟩, hq⟩

end Go.Proofs.Qxb6609485a
