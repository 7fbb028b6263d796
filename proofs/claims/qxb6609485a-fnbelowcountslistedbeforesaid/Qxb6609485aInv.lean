import Derived.Test.Qxb6609485aLaw
import Derived.Deep.RegionLaw
namespace Go.Proofs.Qxb6609485a
open Go.RowKit
open Go.Lib (compareBytes)

theorem info46 : (Try.prog.info? 46).map (fun i => (i.zero, i.size, i.bytes)) = some (some (.agg #[.int .u64 0, .string ⟨#[]⟩, .slice none 0 0, .slice none 0 0, .int .i64 0, .int .u64 0]), 6, 88) := by kernel_rfl
theorem info50 : (Try.prog.info? 50).map (fun i => (i.zero, i.size, i.bytes)) = some (some (.agg #[.pointer none, .int .i64 0, .int .u64 0, .string ⟨#[]⟩]), 4, 40) := by kernel_rfl

/-! ### The inner loop: the documents of one chunk -/
def InvD (W1 : World) (lo : Nat) (ss : Nat → ByteArray) (zs : Nat → Int) (j : Nat) (v : Value) (wr : World) : Prop :=
  ∃ Ls : Nat → Value, wr.ownsRow W1.heap.size 46 6 v j (rowOf (docCells (fun x => ss (lo + x)) Ls) j) ∧ (∀ x, x < j → LineH wr (Ls x) (dsOf (zs (lo + x)))) ∧ Below W1.heap.size W1 wr
theorem InvD.start (W1 : World) (lo : Nat) (ss : Nat → ByteArray) (zs : Nat → Int) : InvD W1 lo ss zs 0 (.slice none 0 0) W1 :=
  ⟨fun _ => .slice none 0 0, World.ownsRow_nil _ _ _ _, fun x hx => by omega, Below.refl _ _⟩
theorem InvD.below {W1 wr w4 : World} {lo : Nat} {ss : Nat → ByteArray} {zs : Nat → Int} {j : Nat} {v : Value} (h : InvD W1 lo ss zs j v wr) (k : Below wr.heap.size wr w4) : InvD W1 lo ss zs j v w4 := by
  obtain ⟨Ls, h1, h2, h3⟩ := h
  exact ⟨Ls, owns_below h1 k, fun x hx => (h2 x hx).kept (Kept.of_below (T := 0) k) (by decide), h3.trans (k.mono h3.size)⟩
theorem InvD.bel {W1 wr : World} {lo : Nat} {ss : Nat → ByteArray} {zs : Nat → Int} {j : Nat} {v : Value} (h : InvD W1 lo ss zs j v wr) : Below W1.heap.size W1 wr := by
  obtain ⟨_, _, _, h3⟩ := h; exact h3
/-- One document more. -/
theorem stepD {W1 w4 w5 : World} {lo : Nat} {ss : Nat → ByteArray} {zs : Nat → Int} {j : Nat} {v v' L : Value} {Ls : Nat → Value}
    (h1 : w4.ownsRow W1.heap.size 46 6 v j (rowOf (docCells (fun x => ss (lo + x)) Ls) j)) (h2 : ∀ x, x < j → LineH w4 (Ls x) (dsOf (zs (lo + x)))) (h3 : Below W1.heap.size W1 w4)
    (hL : LineH w4 L (dsOf (zs (lo + j))))
    (ho : w5.ownsRow W1.heap.size 46 6 v' (j + 1) (rowOf (docCells (fun x => ss (lo + x)) Ls) j ++ [.int .u64 (head (ss (lo + j)) : Nat), .string (ss (lo + j)), L, .slice none 0 0, .int .i64 0, .int .u64 0]))
    (hg : w4.grownBy w5 v.ownBlock) : InvD W1 lo ss zs (j + 1) v' w5 := by
  have hk : Kept 46 w4 w5 := Kept.of_grown h1 hg
  refine ⟨fun x => if x = j then L else Ls x, ?_, fun x hx => ?_, h3.grown hg h3.size fun k hk => (h1.lt k hk).1⟩
  · have e : rowOf (docCells (fun x => ss (lo + x)) fun x => if x = j then L else Ls x) (j + 1) = rowOf (docCells (fun x => ss (lo + x)) Ls) j ++ [.int .u64 (head (ss (lo + j)) : Nat), .string (ss (lo + j)), L, .slice none 0 0, .int .i64 0, .int .u64 0] := by
      rw [rowOf, rowOf_congr _ (docCells (fun x => ss (lo + x)) Ls) j (fun i hi => by simp [docCells, show i ≠ j from by omega])]
      simp [docCells]
    rw [e]; exact ho
  · by_cases e : x = j
    · subst e; simp only [if_true]; exact hL.kept hk (by decide)
    · simp only [e, if_false]; exact (h2 x (by omega)).kept hk (by decide)

/-! ### The outer loop: the chunks -/
def Inv (w : World) (n P : Nat) (ss : Nat → ByteArray) (zs : Nat → Int) (c : Nat) (kv lv : Value) (wr : World) : Prop :=
  ∃ (lps : Nat → Nat) (vs : Nat → Value) (Lss : Nat → Nat → Value),
    (∀ k, k < c → LeafH wr (lps k) (lenOf n P k) (vs k) (fun j => ss (k * P + j)) (Lss k) (fun j => dsOf (zs (k * P + j)))) ∧
    wr.ownsRow w.heap.size 50 4 kv c (rowOf (kidCells lps (fun k => live zs (k * P) (lenOf n P k)) (fun k => ss (k * P))) c) ∧
    (∀ k, k + 1 = c → lv = .pointer (some ⟨lps k, 0, none⟩)) ∧ Below w.heap.size w wr
theorem Inv.start {w wr : World} (n P : Nat) (ss : Nat → ByteArray) (zs : Nat → Int) (lv : Value) (h : Below w.heap.size w wr) : Inv w n P ss zs 0 (.slice none 0 0) lv wr :=
  ⟨fun _ => 0, fun _ => .slice none 0 0, fun _ _ => .slice none 0 0, fun k hk => by omega, World.ownsRow_nil _ _ _ _, fun k hk => by omega, h⟩
theorem Inv.bel {w wr : World} {n P : Nat} {ss : Nat → ByteArray} {zs : Nat → Int} {c : Nat} {kv lv : Value} (h : Inv w n P ss zs c kv lv wr) : Below w.heap.size w wr := by
  obtain ⟨_, _, _, _, _, _, h4⟩ := h; exact h4
/-- The leaf is made and the call's own new blocks are laid: all that was built is kept. -/
theorem Inv.open {w wr w4 : World} {n P : Nat} {ss : Nat → ByteArray} {zs : Nat → Int} {c : Nat} {kv lv : Value} (h : Inv w n P ss zs c kv lv wr) (k : Below wr.heap.size wr w4) :
    ∃ (lps : Nat → Nat) (vs : Nat → Value) (Lss : Nat → Nat → Value),
    (∀ k, k < c → LeafH w4 (lps k) (lenOf n P k) (vs k) (fun j => ss (k * P + j)) (Lss k) (fun j => dsOf (zs (k * P + j)))) ∧
    w4.ownsRow w.heap.size 50 4 kv c (rowOf (kidCells lps (fun k => live zs (k * P) (lenOf n P k)) (fun k => ss (k * P))) c) ∧ Below w.heap.size w w4 := by
  obtain ⟨lps, vs, Lss, h1, h2, _, h4⟩ := h
  exact ⟨lps, vs, Lss, fun i hi => (h1 i hi).kept (Kept.of_below (T := 0) k) (by decide) (by decide) (by decide), owns_below h2 k, h4.trans (k.mono h4.size)⟩
/-- A leaf out of what the inner loop leaves. -/
theorem leaf_new {W1 w2 : World} {lo len : Nat} {ss : Nat → ByteArray} {zs : Nat → Int} {v : Value} (h : InvD W1 lo ss zs len v w2) (hl : 0 < len) :
    ∃ Ls, LeafH (w2.alloc (.cells #[.int .u64 0, v, .slice none 0 0] 59)) w2.heap.size len v (fun j => ss (lo + j)) Ls (fun j => dsOf (zs (lo + j))) := by
  have hb : Below w2.heap.size w2 (w2.alloc (.cells #[.int .u64 0, v, .slice none 0 0] 59)) := (Below.refl _ _).alloc (Nat.le_refl _) _
  obtain ⟨Ls, h1, h2, h3⟩ := h.below hb
  refine ⟨Ls, heap_alloc_new _ _, ?_, h2⟩
  rcases h1.2 with ⟨_, h0⟩ | ⟨g, cap, cur, hv, _, hg, hc, _, _, hr⟩
  · omega
  · exact ⟨g, cap, cur, hv, hg, hc, hr⟩
/-- One chunk more. -/
theorem stepC {w w4 w5 : World} {n P : Nat} {ss : Nat → ByteArray} {zs : Nat → Int} {c : Nat} {kv kv' : Value} {lps : Nat → Nat} {vs : Nat → Value} {Lss : Nat → Nat → Value} {p : Nat} {v : Value} {Ls : Nat → Value}
    (h1 : ∀ k, k < c → LeafH w4 (lps k) (lenOf n P k) (vs k) (fun j => ss (k * P + j)) (Lss k) (fun j => dsOf (zs (k * P + j))))
    (h2 : w4.ownsRow w.heap.size 50 4 kv c (rowOf (kidCells lps (fun k => live zs (k * P) (lenOf n P k)) (fun k => ss (k * P))) c)) (h4 : Below w.heap.size w w4)
    (hl : LeafH w4 p (lenOf n P c) v (fun j => ss (c * P + j)) Ls (fun j => dsOf (zs (c * P + j))))
    (ho : w5.ownsRow w.heap.size 50 4 kv' (c + 1) (rowOf (kidCells lps (fun k => live zs (k * P) (lenOf n P k)) (fun k => ss (k * P))) c ++ [.pointer (some ⟨p, 0, none⟩), .int .i64 (live zs (c * P) (lenOf n P c) : Nat), .int .u64 (head (ss (c * P)) : Nat), .string (ss (c * P))]))
    (hg : w4.grownBy w5 kv.ownBlock) : Inv w n P ss zs (c + 1) kv' (.pointer (some ⟨p, 0, none⟩)) w5 := by
  have hk : Kept 50 w4 w5 := Kept.of_grown h2 hg
  refine ⟨fun k => if k = c then p else lps k, fun k => if k = c then v else vs k, fun k => if k = c then Ls else Lss k, fun k hkc => ?_, ?_, fun k hkc => ?_, h4.grown hg h4.size fun k hk => (h2.lt k hk).1⟩
  · by_cases e : k = c
    · subst e; simp only [if_true]; exact hl.kept hk (by decide) (by decide) (by decide)
    · simp only [e, if_false]; exact (h1 k (by omega)).kept hk (by decide) (by decide) (by decide)
  · have e : rowOf (kidCells (fun k => if k = c then p else lps k) (fun k => live zs (k * P) (lenOf n P k)) (fun k => ss (k * P))) (c + 1) = rowOf (kidCells lps (fun k => live zs (k * P) (lenOf n P k)) (fun k => ss (k * P))) c ++
        [.pointer (some ⟨p, 0, none⟩), .int .i64 (live zs (c * P) (lenOf n P c) : Nat), .int .u64 (head (ss (c * P)) : Nat), .string (ss (c * P))] := by
      rw [rowOf, rowOf_congr _ (kidCells lps (fun k => live zs (k * P) (lenOf n P k)) (fun k => ss (k * P))) c (fun i hi => by simp [kidCells, show i ≠ c from by omega])]
      simp [kidCells]
    rw [e]; exact ho
  · have e : k = c := by omega
    simp [e]

theorem stepC' {w w8 w4 w5 : World} {n P t j : Nat} {ss : Nat → ByteArray} {zs : Nat → Int} {c : Nat} {kv kv' : Value} {lps : Nat → Nat} {vs : Nat → Value} {Lss : Nat → Nat → Value} {p : Nat} {v : Value} {Ls : Nat → Value}
    (hc : c * P = t) (hj : j = lenOf n P c)
    (h1 : ∀ k, k < c → LeafH w8 (lps k) (lenOf n P k) (vs k) (fun j => ss (k * P + j)) (Lss k) (fun j => dsOf (zs (k * P + j))))
    (h2 : w4.ownsRow w.heap.size 50 4 kv c (rowOf (kidCells lps (fun k => live zs (k * P) (lenOf n P k)) (fun k => ss (k * P))) c)) (h3 : Below w.heap.size w w8) (k : Below w8.heap.size w8 w4)
    (hl : LeafH w8 p j v (fun x => ss (t + x)) Ls (fun x => dsOf (zs (t + x))))
    (ho : w5.ownsRow w.heap.size 50 4 kv' (c + 1) (rowOf (kidCells lps (fun k => live zs (k * P) (lenOf n P k)) (fun k => ss (k * P))) c ++ [.pointer (some ⟨p, 0, none⟩), .int .i64 (live zs t j : Nat), .int .u64 (head (ss t) : Nat), .string (ss t)]))
    (hg : w4.grownBy w5 kv.ownBlock) : Inv w n P ss zs (c + 1) kv' (.pointer (some ⟨p, 0, none⟩)) w5 := by
  subst hc hj
  exact stepC (fun i hi => (h1 i hi).kept (Kept.of_below (T := 0) k) (by decide) (by decide) (by decide)) h2 (h3.trans (k.mono h3.size)) (hl.kept (Kept.of_below (T := 0) k) (by decide) (by decide) (by decide)) ho hg
theorem next_t {n P c t j : Nat} (hc : c * P = t) (hj : j = lenOf n P c) (htn : t < n) : t + j = min ((c + 1) * P) n ∧ (c + 1) * P < n + P := by
  have e : (c + 1) * P = t + P := by rw [Nat.add_mul, Nat.one_mul, hc]
  unfold lenOf at hj
  rw [e] at hj ⊢
  rw [hc] at hj
  omega

theorem bel_drew {w w' : World} (h : Below w.drew.heap.size w.drew w') : Below w.heap.size w w' := (Below.refl _ w).drew.trans h
/-- append onto a row of the call's own, as one step of a region that draws its order. -/
theorem step_append_own {P : Program} {w : World} {ops : Array Oper} {o : Oper} {a : Act} {K : Act → World → Prop} {Q : Exit → Act → World → Prop} {E : Prop} (hgd : o.guard = none) (s x : Operand) (t : TypeId)
    (ho : o.op = .call { callee := .builtin .append, args := #[s, x], argTypes := #[t, t] })
    (base : Nat) (e : TypeId) (i : TypeInfo) (z : Value) (size bytes : Nat) (ht : P.underlying t = some (.slice e)) (hi : P.info? e = some i) (hz : i.zero = some z)
    (hsize : i.size = size) (hby : i.bytes = bytes) (hzs : z.cells.size = size) (hsz : 0 < size)
    (v : Value) (n : Nat) (xs : List Value) (hs : a.eval s = v) (hown : w.ownsRow base e size v n xs)
    (ad : Addr) (m c : Nat) (news : List Value) (hx : a.eval x = .slice (some ad) m c) (hl : news.length = m * size) (hnews : ∀ j u, news[j]? = some u → w.cell? (ad.add j) = some u) (h1 : ∀ u ∈ news, u.oneCell' = true)
    (h63 : n + m ≤ maxLen) (hbytes : (n + m) * bytes ≤ 140737488355328) (hbase : base ≤ w.heap.size)
    (h : ∀ v' w', w'.ownsRow base e size v' (n + m) (xs ++ news) → w.grownBy w' v.ownBlock → (v' = .slice none 0 0 ↔ v = .slice none 0 0 ∧ m = 0) → K (a.put o.dst v') w') :
    if Region.wanted o (yielded ops a.tmps) = true then Oper.wp P o a w K Q else E := by
  have hw : Region.wanted o (yielded ops a.tmps) = true := by simp [Region.wanted, hgd]
  rw [if_pos hw]
  exact wp_append_own w s x t ho base e i z size bytes ht hi hz hsize hby hzs hsz v n xs hs hown ad m c news hx hl hnews h1 h63 hbytes hbase h

theorem InvD.slice {W1 wr : World} {lo : Nat} {ss : Nat → ByteArray} {zs : Nat → Int} {j : Nat} {v : Value} (h : InvD W1 lo ss zs j v wr) (hj : 0 < j) : ∃ g cap, v = .slice (some ⟨g, 0, none⟩) j cap := by
  obtain ⟨_, h1, _⟩ := h
  rcases h1.2 with ⟨_, h0⟩ | ⟨g, cap, _, hv, _⟩
  · omega
  · exact ⟨g, cap, hv⟩
theorem news_at (W : World) (cs : List Value) (t : TypeId) : ∀ j u, cs[j]? = some u → (W.alloc (.cells cs.toArray t)).cell? ((⟨W.heap.size, 0, none⟩ : Addr).add j) = some u := by
  intro j u hj
  rw [show (⟨W.heap.size, 0, none⟩ : Addr).add j = ⟨W.heap.size, 0 + j, none⟩ from by unfold Addr.add; split <;> simp_all, cell_newest _ _ _ _ rfl, Nat.zero_add]
  simpa using hj

end Go.Proofs.Qxb6609485a
