import Derived.Test.Qxb6612345aNew
namespace Go.Proofs.Qxb6612345a
open Go.RowKit Go.MuLone

/-- A world that has kept all that lay in w. -/
structure Kin (w : World) where
  at' : World
  below : Below w.heap.size w at'
theorem wp_region_kin {P : Program} {id : Nat} {Q : Exit → Act → World → Prop} {a : Act} {w : World} {l : List Oper} (hm : P.follows .mixedOrders = true) (hB : Region.lexB .any l.toArray = true)
    (h : wpQuiet P l.toArray (fun w' => ∃ p : Kin w, w' = p.at') (fun a' => ∀ w', (∃ p : Kin w, w' = p.at') → Q .normal a' w') l a) : (Code.region id l.toArray true).wp P Q a w :=
  wp_region_quiet (C := fun w' => ∃ p : Kin w, w' = p.at') hm hB ⟨⟨w.drew, (Below.refl _ _).drew⟩, rfl⟩ (by simpa using h)
theorem kinNe (w : World) : Nonempty (Kin w) := ⟨⟨w, Below.refl _ _⟩⟩
theorem kin_of {P : Program} {f : FuncId} {args : Array Value} {w : World} {p : Kin w} {v : Value}
    (h : Calls P f args p.at' fun e w' => e = .returned v ∧ Below p.at'.heap.size p.at' w') : Calls P f args p.at' fun e w'' => e = .returned v ∧ ∃ q : Kin w, w'' = q.at' :=
  h.mono fun _ w' ⟨he, hb⟩ => ⟨he, ⟨w', p.below.trans (hb.mono p.below.size)⟩, rfl⟩

/-- The coordinator as it stands under its lock, and the box of the id. -/
structure Held (w : World) (b x : Nat) (s : ByteArray) (m : Nat) : Prop where
  lt : b < w.heap.size
  ltx : x < w.heap.size
  ltm : m + 7 < w.heap.size
  name : w.cell? ⟨b, 0, none⟩ = some (.string s)
  mu : w.cell? ⟨b, 10, none⟩ = some (.int .i32 1)
  froz : w.frozen? ⟨b, 10, none⟩ = false
  begun : w.cell? ⟨b, 12, none⟩ = some (.map (some m))
  decided : w.cell? ⟨b, 13, none⟩ = some (.map (some (m + 1)))
  doubts : w.cell? ⟨b, 15, none⟩ = some (.map (some (m + 3)))
  lost : w.cell? ⟨b, 18, none⟩ = some (.bool false)
  kept : w.cell? ⟨b, 20, none⟩ = some (.map (some (m + 7)))
  x0 : w.cell? ⟨x, 0, none⟩ = some (.string ⟨#[]⟩)
  x1 : w.cell? ⟨x, 1, none⟩ = some (.string ⟨#[]⟩)
  h0 : w.heap[m]? = some (.map #[] 0)
  h1 : w.heap[m + 1]? = some (.map #[] 0)
  h3 : w.heap[m + 3]? = some (.map #[] 0)
  h7 : w.heap[m + 7]? = some (.map #[] 0)
theorem Held.below {w w' : World} {b x m : Nat} {s : ByteArray} (h : Held w b x s m) (k : Below w.heap.size w w') : Held w' b x s m :=
  ⟨Nat.lt_of_lt_of_le h.lt k.size, Nat.lt_of_lt_of_le h.ltx k.size, Nat.lt_of_lt_of_le h.ltm k.size,
   (k.cell (p := ⟨b, 0, none⟩) h.lt).trans h.name, (k.cell (p := ⟨b, 10, none⟩) h.lt).trans h.mu, (k.frozen (p := ⟨b, 10, none⟩) h.lt).trans h.froz,
   (k.cell (p := ⟨b, 12, none⟩) h.lt).trans h.begun, (k.cell (p := ⟨b, 13, none⟩) h.lt).trans h.decided, (k.cell (p := ⟨b, 15, none⟩) h.lt).trans h.doubts,
   (k.cell (p := ⟨b, 18, none⟩) h.lt).trans h.lost, (k.cell (p := ⟨b, 20, none⟩) h.lt).trans h.kept,
   (k.cell (p := ⟨x, 0, none⟩) h.ltx).trans h.x0, (k.cell (p := ⟨x, 1, none⟩) h.ltx).trans h.x1,
   (k.block m (by have := h.ltm; omega)).trans h.h0, (k.block (m + 1) (by have := h.ltm; omega)).trans h.h1,
   (k.block (m + 3) (by have := h.ltm; omega)).trans h.h3, (k.block (m + 7) h.ltm).trans h.h7⟩

theorem zp55 (W : World) : (zeroValue 55).run Try.prog W = .ok (.pointer none) W := by kernel_rfl
theorem zp64 (W : World) : (zeroValue 64).run Try.prog W = .ok (.pointer none) W := by kernel_rfl
theorem zi56 (W : World) : (zeroValue 56).run Try.prog W = .ok (.int .i64 0) W := by kernel_rfl
theorem Held.look {w : World} {b x m : Nat} {s : ByteArray} (h : Held w b x s m) :
    (Instr.lookup 35 (.map (some m)) id0 false).run Try.prog w = .ok (.int .i64 0) w ∧ (Instr.lookup 36 (.map (some (m + 1))) id0 false).run Try.prog w = .ok (.pointer none) w ∧
    (Instr.lookup 36 (.map (some (m + 7))) id0 false).run Try.prog w = .ok (.pointer none) w ∧ (Instr.lookup 38 (.map (some (m + 3))) id0 false).run Try.prog w = .ok (.pointer none) w :=
  ⟨Qxb6612345a.look Try.underlying35 zi56 _ _ h.h0, Qxb6612345a.look Try.underlying36 zp55 _ _ h.h1, Qxb6612345a.look Try.underlying36 zp55 _ _ h.h7, Qxb6612345a.look Try.underlying38 zp64 _ _ h.h3⟩

/-- All that is read under the lock, in whatever world has kept it. -/
theorem Held.kin {w : World} {b x m : Nat} {s : ByteArray} (h : Held w b x s m) :
    (∀ p : Kin w, p.at'.cell? ⟨b, 0, none⟩ = some (.string s)) ∧ (∀ p : Kin w, p.at'.cell? ⟨b, 12, none⟩ = some (.map (some m))) ∧ (∀ p : Kin w, p.at'.cell? ⟨b, 13, none⟩ = some (.map (some (m + 1)))) ∧
    (∀ p : Kin w, p.at'.cell? ⟨b, 15, none⟩ = some (.map (some (m + 3)))) ∧ (∀ p : Kin w, p.at'.cell? ⟨b, 20, none⟩ = some (.map (some (m + 7)))) ∧
    (∀ p : Kin w, p.at'.cell? ⟨x, 0, none⟩ = some (.string ⟨#[]⟩)) ∧ (∀ p : Kin w, p.at'.cell? ⟨x, 1, none⟩ = some (.string ⟨#[]⟩)) ∧
    (∀ p : Kin w, (Instr.lookup 35 (.map (some m)) id0 false).run Try.prog p.at' = .ok (.int .i64 0) p.at') ∧ (∀ p : Kin w, (Instr.lookup 36 (.map (some (m + 1))) id0 false).run Try.prog p.at' = .ok (.pointer none) p.at') ∧
    (∀ p : Kin w, (Instr.lookup 36 (.map (some (m + 7))) id0 false).run Try.prog p.at' = .ok (.pointer none) p.at') ∧ (∀ p : Kin w, (Instr.lookup 38 (.map (some (m + 3))) id0 false).run Try.prog p.at' = .ok (.pointer none) p.at') :=
  ⟨fun p => (h.below p.below).name, fun p => (h.below p.below).begun, fun p => (h.below p.below).decided, fun p => (h.below p.below).doubts, fun p => (h.below p.below).kept, fun p => (h.below p.below).x0, fun p => (h.below p.below).x1,
   fun p => (h.below p.below).look.1, fun p => (h.below p.below).look.2.1, fun p => (h.below p.below).look.2.2.1, fun p => (h.below p.below).look.2.2.2⟩

set_option maxHeartbeats 400000 in
theorem coordinator (w : World) : Calls Try.prog 10 #[id0] w fun e w' => e = .returned (.string ⟨#[]⟩) ∧ Below w.heap.size w w' := by
  go_enter Try.func10, Try.ntmps10
  go_wp2_with fail
  go_ret
  exact ⟨rfl, (Below.refl _ _).alloc (Nat.le_refl _) _⟩
set_option maxHeartbeats 400000 in
theorem name_any (b : Nat) (s : ByteArray) (w : World) (h : w.cell? ⟨b, 0, none⟩ = some (.string s)) : Calls Try.prog 7 #[.pointer (some ⟨b, 0, none⟩)] w fun e w' => e = .returned (.string s) ∧ w' = w := by
  go_enter Try.func7, Try.ntmps7
  go_wp2_with fail
  go_ret
  exact ⟨rfl, rfl⟩

set_option maxRecDepth 100000 in
set_option maxHeartbeats 1600000 in
theorem inquire (b m : Nat) (s : ByteArray) (w : World) (hf : Fresh w b s m) (hmb : m + 7 < b) :
    Calls Try.prog 6 #[.pointer (some ⟨b, 0, none⟩), id0] w fun e w' => e = .returned (.tuple #[.bool false, .bool s.toList.isEmpty]) ∧ w'.cell? ⟨b, 0, none⟩ = some (.string s) ∧ Below b w w' := by
  obtain ⟨flt, fname, fmu, ffroz, f12, f13, f15, f18, f20, fh0, fh1, fh3, fh7⟩ := hf
  have hc : (w.alloc (.cells #[.string ⟨#[]⟩, .string ⟨#[]⟩] 31)).cell? ⟨b, 10, none⟩ = some (.int .i32 0) := (World.cell?_alloc_lt _ _ _ flt).trans fmu
  have hz : (w.alloc (.cells #[.string ⟨#[]⟩, .string ⟨#[]⟩] 31)).frozen? ⟨b, 10, none⟩ = false := (((Below.refl w.heap.size w).alloc (Nat.le_refl _) _).frozen (p := ⟨b, 10, none⟩) flt).trans ffroz
  have hb : Below b w ((w.setCell ⟨b, 10, none⟩ (.int .i32 1)).alloc (.cells #[.string ⟨#[]⟩, .string ⟨#[]⟩] 31)) := ((Below.refl b w).setCell (Nat.le_refl _) _).alloc (by simp; omega) _
  have sz : b < (w.setCell ⟨b, 10, none⟩ (.int .i32 1)).heap.size := by simpa using flt
  have ot : ∀ o, o ≠ 10 → ((w.setCell ⟨b, 10, none⟩ (.int .i32 1)).alloc (.cells #[.string ⟨#[]⟩, .string ⟨#[]⟩] 31)).cell? ⟨b, o, none⟩ = w.cell? ⟨b, o, none⟩ := fun o ho =>
    (World.cell?_alloc_lt _ _ _ sz).trans (World.cell?_setCell_other _ ⟨b, 10, none⟩ ⟨b, o, none⟩ _ (fun e => ho (congrArg Addr.off e).symm))
  have ox : ∀ o, ((w.setCell ⟨b, 10, none⟩ (.int .i32 1)).alloc (.cells #[.string ⟨#[]⟩, .string ⟨#[]⟩] 31)).cell? ⟨w.heap.size, o, none⟩ = #[Value.string ⟨#[]⟩, .string ⟨#[]⟩][o]? := fun o => cell_newest _ _ _ _ (by simp) _
  have H : Held ((w.setCell ⟨b, 10, none⟩ (.int .i32 1)).alloc (.cells #[.string ⟨#[]⟩, .string ⟨#[]⟩] 31)) b w.heap.size s m :=
    ⟨by simp; omega, by simp, by simp; omega, (ot 0 (by decide)).trans fname, (World.cell?_alloc_lt _ _ _ sz).trans (World.cell?_setCell_same _ ⟨b, 10, none⟩ (.int .i32 1) fmu),
      (((Below.refl _ (w.setCell ⟨b, 10, none⟩ (.int .i32 1))).alloc (Nat.le_refl _) _).frozen (p := ⟨b, 10, none⟩) sz).trans (by simpa using ffroz),
      (ot 12 (by decide)).trans f12, (ot 13 (by decide)).trans f13, (ot 15 (by decide)).trans f15, (ot 18 (by decide)).trans f18, (ot 20 (by decide)).trans f20,
      (ox 0).trans rfl, (ox 1).trans rfl, (hb.block _ (by omega)).trans fh0, (hb.block _ (by omega)).trans fh1, (hb.block _ (by omega)).trans fh3, (hb.block _ (by omega)).trans fh7⟩
  clear ot ox sz f12 f13 f15 f18 f20 fh0 fh1 fh3 fh7
  go_enter_defers Try.func6, Try.ntmps6
  go_wp2_with (go_at_call 8; refine (lock_free muLib ⟨b, 10, none⟩ _ hc hz).mono ?_; rintro e w' ⟨rfl, rfl⟩)
  clear hc hz
  generalize hW : ((w.setCell ⟨b, 10, none⟩ (.int .i32 1)).alloc (.cells #[.string ⟨#[]⟩, .string ⟨#[]⟩] 31)) = W1 at H hb ⊢
  clear hW
  have hx : Hid (Held W1 b w.heap.size s m) := H
  have hbb : Hid (Below b w W1) := hb
  clear H hb
  -- region 3
  have kne := kinNe W1
  obtain ⟨k0, k12, k13, k15, k20, kx0, kx1, l0, l1, l7, l3⟩ := hx.out.kin
  refine wp_region_kin (by kernel_rfl) (by kernel_rfl) ?_
  repeat (quiet_step (rfl))
  refine wpQuiet_nil ?_
  intro W2 hw
  obtain ⟨p, hw⟩ := hw
  have hp := p.below
  rw [← hw] at hp
  clear k0 k12 k13 k15 k20 kx0 kx1 l0 l1 l7 l3 kne hw p
  replace hbb : Hid (Below b w W2) := hbb.out.trans (hp.mono (Nat.le_of_lt hx.out.lt))
  replace hx : Hid (Held W2 b w.heap.size s m) := hx.out.below hp
  clear hp W1
  go_wp2_with fail
  -- region 5
  have kne := kinNe W2
  obtain ⟨k0, k12, k13, k15, k20, kx0, kx1, l0, l1, l7, l3⟩ := hx.out.kin
  refine wp_region_kin (by kernel_rfl) (by kernel_rfl) ?_
  repeat (quiet_step (rfl))
  refine wpQuiet_nil ?_
  intro W3 hw
  obtain ⟨p, hw⟩ := hw
  have hp := p.below
  rw [← hw] at hp
  clear k0 k12 k13 k15 k20 kx0 kx1 l0 l1 l7 l3 kne hw p
  replace hbb : Hid (Below b w W3) := hbb.out.trans (hp.mono (Nat.le_of_lt hx.out.lt))
  replace hx : Hid (Held W3 b w.heap.size s m) := hx.out.below hp
  clear hp W2
  go_wp2_with fail
  -- region 6
  have kne := kinNe W3
  obtain ⟨k0, k12, k13, k15, k20, kx0, kx1, l0, l1, l7, l3⟩ := hx.out.kin
  refine wp_region_kin (by kernel_rfl) (by kernel_rfl) ?_
  repeat (quiet_step (rfl))
  refine wpQuiet_nil ?_
  intro W4 hw
  obtain ⟨p, hw⟩ := hw
  have hp := p.below
  rw [← hw] at hp
  clear k0 k12 k13 k15 k20 kx0 kx1 l0 l1 l7 l3 kne hw p
  replace hbb : Hid (Below b w W4) := hbb.out.trans (hp.mono (Nat.le_of_lt hx.out.lt))
  replace hx : Hid (Held W4 b w.heap.size s m) := hx.out.below hp
  clear hp W3
  go_wp2_with fail
  -- region 13
  have kne := kinNe W4
  obtain ⟨k0, k12, k13, k15, k20, kx0, kx1, l0, l1, l7, l3⟩ := hx.out.kin
  refine wp_region_kin (by kernel_rfl) (by kernel_rfl) ?_
  repeat (quiet_step (rfl))
  refine wpQuiet_nil ?_
  intro W5 hw
  obtain ⟨p, hw⟩ := hw
  have hp := p.below
  rw [← hw] at hp
  clear k0 k12 k13 k15 k20 kx0 kx1 l0 l1 l7 l3 kne hw p
  replace hbb : Hid (Below b w W5) := hbb.out.trans (hp.mono (Nat.le_of_lt hx.out.lt))
  replace hx : Hid (Held W5 b w.heap.size s m) := hx.out.below hp
  clear hp W4
  go_wp2_with fail
  -- region 14
  have kne := kinNe W5
  obtain ⟨k0, k12, k13, k15, k20, kx0, kx1, l0, l1, l7, l3⟩ := hx.out.kin
  refine wp_region_kin (by kernel_rfl) (by kernel_rfl) ?_
  repeat (quiet_step (first | rfl | (go_at_call 10; exact kin_of (coordinator _))))
  refine wpQuiet_nil ?_
  intro W6 hw
  obtain ⟨p, hw⟩ := hw
  have hp := p.below
  rw [← hw] at hp
  clear k0 k12 k13 k15 k20 kx0 kx1 l0 l1 l7 l3 kne hw p
  replace hbb : Hid (Below b w W6) := hbb.out.trans (hp.mono (Nat.le_of_lt hx.out.lt))
  replace hx : Hid (Held W6 b w.heap.size s m) := hx.out.below hp
  clear hp W5
  have x18 := hx.out.lost
  go_wp2_with fail
  all_goals
    refine leaves_cons (f := 9) (args := #[.pointer (some ⟨b, 10, none⟩)]) (by simp) (by simp [go_sem]) ?_
    refine (unlock_deferred muLib ⟨b, 10, none⟩ .returning _ hx.out.mu hx.out.froz).mono ?_
    rintro e u' w'' ⟨rfl, rfl, rfl⟩
    refine ⟨_, results_tmp2 rfl _ _ _, ?_, (World.cell?_setCell_other _ ⟨b, 10, none⟩ ⟨b, 0, none⟩ _ (by simp)).trans hx.out.name, hbb.out.setCell (Nat.le_refl _) _⟩
    simp_all
end Go.Proofs.Qxb6612345a
