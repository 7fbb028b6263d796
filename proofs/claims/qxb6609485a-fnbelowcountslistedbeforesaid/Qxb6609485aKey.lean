import Derived.Test.Qxb6609485aCmp
import Derived.Test.Qxb6609485aShelf
import Derived.Lib.BufferWrite
import Derived.Deep.WholeRow
namespace Go.Proofs.Qxb6609485a
open Go.RowKit
open Go.Lib (compareBytes byteCells)

/-- The first eight bytes, zeros past the end. -/
def pad8 (l : List UInt8) : List UInt8 := l.take 8 ++ List.replicate (8 - l.length) 0
theorem pad8_length (l : List UInt8) : (pad8 l).length = 8 := by simp [pad8]; omega
/-- The head of a key. -/
def head (s : ByteArray) : Nat := Lib.beNat (pad8 s.data.toList)
theorem eight {α : Type} (l : List α) (h : l.length = 8) : ∃ b0 b1 b2 b3 b4 b5 b6 b7, l = [b0, b1, b2, b3, b4, b5, b6, b7] := by
  match l, h with
  | [b0, b1, b2, b3, b4, b5, b6, b7], _ => exact ⟨b0, b1, b2, b3, b4, b5, b6, b7, rfl⟩

theorem size5 : (Try.prog.info? 5).map (·.size) = some 1 := by kernel_rfl

theorem keycopy (s : ByteArray) (w : World) (b0 b1 b2 b3 b4 b5 b6 b7 : UInt8) (h : pad8 s.data.toList = [b0, b1, b2, b3, b4, b5, b6, b7]) :
    (Builtin.copy_ #[26, 9] 3 #[.slice (some ⟨w.heap.size, 0, none⟩) 8 8, .string s]).run Try.prog (w.alloc (.cells #[.int .u8 0, .int .u8 0, .int .u8 0, .int .u8 0, .int .u8 0, .int .u8 0, .int .u8 0, .int .u8 0] 65)) =
      .ok (.int .i64 (Nat.min s.size 8 : Nat)) (w.alloc (.cells #[.int .u8 b0.toNat, .int .u8 b1.toNat, .int .u8 b2.toNat, .int .u8 b3.toNat, .int .u8 b4.toNat, .int .u8 b5.toNat, .int .u8 b6.toNat, .int .u8 b7.toNat] 65)) := by
  have hu : Try.prog.underlying 26 = some (.slice 5) := Try.underlying26
  have hs := size5
  have hg : (w.alloc (.cells #[.int .u8 0, .int .u8 0, .int .u8 0, .int .u8 0, .int .u8 0, .int .u8 0, .int .u8 0, .int .u8 0] 65)).heap[w.heap.size]? = some (.cells #[.int .u8 0, .int .u8 0, .int .u8 0, .int .u8 0, .int .u8 0, .int .u8 0, .int .u8 0, .int .u8 0] 65 (0, 0)) := heap_alloc_new _ _
  have hlen : (byteCells (s.data.toList.take 8)).length = Nat.min s.size 8 := by
    rw [Lib.byteCells_length, List.length_take, Nat.min_comm]; rfl
  have hst := run_storeCells_at Try.prog w.heap.size 0 65 (byteCells (s.data.toList.take 8)) 0 _ _ hg (by rw [hlen]; simp; exact Nat.min_le_right _ _) (Lib.byteCells_one _)
  have hrow : (List.take (0 + 0) (#[Value.int .u8 0, .int .u8 0, .int .u8 0, .int .u8 0, .int .u8 0, .int .u8 0, .int .u8 0, .int .u8 0] : Array Value).toList ++ byteCells (s.data.toList.take 8) ++ (#[Value.int .u8 0, .int .u8 0, .int .u8 0, .int .u8 0, .int .u8 0, .int .u8 0, .int .u8 0, .int .u8 0] : Array Value).toList.drop (0 + 0 + (byteCells (s.data.toList.take 8)).length)).toArray
      = #[.int .u8 b0.toNat, .int .u8 b1.toNat, .int .u8 b2.toNat, .int .u8 b3.toNat, .int .u8 b4.toNat, .int .u8 b5.toNat, .int .u8 b6.toNat, .int .u8 b7.toNat] := by
    have e1 : ([Value.int .u8 0, .int .u8 0, .int .u8 0, .int .u8 0, .int .u8 0, .int .u8 0, .int .u8 0, .int .u8 0] : List Value) = byteCells (List.replicate 8 0) := rfl
    have e2 : byteCells (pad8 s.data.toList) = [.int .u8 b0.toNat, .int .u8 b1.toNat, .int .u8 b2.toNat, .int .u8 b3.toNat, .int .u8 b4.toNat, .int .u8 b5.toNat, .int .u8 b6.toNat, .int .u8 b7.toNat] := by rw [h]; rfl
    have e3 : (byteCells (List.replicate 8 0)).drop (Nat.min s.size 8) = byteCells (List.replicate (8 - s.data.toList.length) 0) := by
      unfold byteCells
      rw [← List.map_drop, List.drop_replicate]
      congr 2
      show 8 - Nat.min s.size 8 = 8 - s.size
      rcases Nat.le_total s.size 8 with hle | hle
      · rw [show Nat.min s.size 8 = s.size from Nat.min_eq_left hle]
      · rw [show Nat.min s.size 8 = 8 from Nat.min_eq_right hle]; omega
    simp only [Nat.add_zero, List.take_zero, List.nil_append]
    rw [hlen, Nat.zero_add, e1, e3, ← Lib.byteCells_append]
    show (byteCells (pad8 s.data.toList)).toArray = _
    rw [e2]
  rw [hrow, World.setRow_alloc_new] at hst
  cases hq : Try.prog.info? 5 with
  | none => simp [hq] at hs
  | some i =>
    have htk : List.take (Nat.min s.size 8) (List.map (fun b : UInt8 => Value.int IntKind.u8 (b.toNat : Int)) s.data.toList) = byteCells (s.data.toList.take 8) := by
      unfold byteCells
      rw [List.map_take]
      have : s.size = (List.map (fun b : UInt8 => Value.int IntKind.u8 (b.toNat : Int)) s.data.toList).length := by rw [List.length_map]; rfl
      rcases Nat.le_total s.size 8 with hle | hle
      · rw [show Nat.min s.size 8 = s.size from Nat.min_eq_left hle, List.take_of_length_le (by omega), List.take_of_length_le (by omega)]
      · rw [show Nat.min s.size 8 = 8 from Nat.min_eq_right hle]
    simp [Builtin.copy_, run_underlying hu, Builtin.lenOf, Builtin.firstCells, sizeOf, typeInfo, hq]
    rw [htk, hst]
    rfl

theorem be8 (g : Nat) (b0 b1 b2 b3 b4 b5 b6 b7 : UInt8) (W : World) (t : TypeId) (fr : Nat × Nat)
    (h : W.heap[g]? = some (.cells #[.int .u8 b0.toNat, .int .u8 b1.toNat, .int .u8 b2.toNat, .int .u8 b3.toNat, .int .u8 b4.toNat, .int .u8 b5.toNat, .int .u8 b6.toNat, .int .u8 b7.toNat] t fr)) :
    Calls Try.prog 25 #[.agg #[], .slice (some ⟨g, 0, none⟩) 8 8] W fun e w' => e = .returned (.int .u64 (Lib.beNat [b0, b1, b2, b3, b4, b5, b6, b7])) ∧ Below W.heap.size W w' :=
  Try.binary_BE_Uint64 g 0 8 8 b0 b1 b2 b3 b4 b5 b6 b7 W (by omega) (by simp [World.cell?, h]) (by simp [World.cell?, h]) (by simp [World.cell?, h]) (by simp [World.cell?, h]) (by simp [World.cell?, h]) (by simp [World.cell?, h]) (by simp [World.cell?, h]) (by simp [World.cell?, h])

theorem bcell {W w1 : World} (hb : Below W.heap.size W w1) : (∀ b o, b < W.heap.size → w1.cell? ⟨b, o, none⟩ = W.cell? ⟨b, o, none⟩) ∧ (∀ b o, b < W.heap.size → w1.frozen? ⟨b, o, none⟩ = W.frozen? ⟨b, o, none⟩) :=
  ⟨fun b o h => hb.cell (p := ⟨b, o, none⟩) h, fun b o h => hb.frozen (p := ⟨b, o, none⟩) h⟩

/-- The call of Uint64 as keyOf makes it: what the code behind it wants. -/
theorem be8_key (b0 b1 b2 b3 b4 b5 b6 b7 : UInt8) (w : World) :
    Calls Try.prog 25 #[.agg #[], .slice (some ⟨w.heap.size + 1, 0, none⟩) 8 8] ((w.alloc (.cells #[.int .u64 0, .string ⟨#[]⟩] 40)).alloc (.cells #[.int .u8 b0.toNat, .int .u8 b1.toNat, .int .u8 b2.toNat, .int .u8 b3.toNat, .int .u8 b4.toNat, .int .u8 b5.toNat, .int .u8 b6.toNat, .int .u8 b7.toNat] 65)).drew
      fun e w' => e = .returned (.int .u64 (Lib.beNat [b0, b1, b2, b3, b4, b5, b6, b7])) ∧ Below w.heap.size w w' ∧ w'.cell? ⟨w.heap.size, 0, none⟩ = some (.int .u64 0) ∧ w'.cell? ⟨w.heap.size, 1, none⟩ = some (.string ⟨#[]⟩) ∧
        w'.frozen? ⟨w.heap.size, 0, none⟩ = false ∧ w'.frozen? ⟨w.heap.size, 1, none⟩ = false := by
  have hrow := heap_alloc_new (w.alloc (.cells #[.int .u64 0, .string ⟨#[]⟩] 40)) (.cells #[.int .u8 b0.toNat, .int .u8 b1.toNat, .int .u8 b2.toNat, .int .u8 b3.toNat, .int .u8 b4.toNat, .int .u8 b5.toNat, .int .u8 b6.toNat, .int .u8 b7.toNat] 65)
  simp only [World.size_alloc] at hrow
  refine (be8 (w.heap.size + 1) b0 b1 b2 b3 b4 b5 b6 b7 _ 65 (0, 0) (by exact hrow)).mono fun e w' ⟨he, hb⟩ => ⟨he, ?_, ?_, ?_, ?_, ?_⟩
  · exact (((((Below.refl _ w).alloc (Nat.le_refl _) _).alloc (by simp) _).drew).trans (hb.mono (by simp; omega)))
  · exact (hb.cell (p := ⟨w.heap.size, 0, none⟩) (by simp; omega)).trans (by simp)
  · exact (hb.cell (p := ⟨w.heap.size, 1, none⟩) (by simp; omega)).trans (by simp)
  · exact (hb.frozen (p := ⟨w.heap.size, 0, none⟩) (by simp; omega)).trans (by simp)
  · exact (hb.frozen (p := ⟨w.heap.size, 1, none⟩) (by simp; omega)).trans (by simp)

set_option maxHeartbeats 400000 in
theorem keyof (s : ByteArray) (w : World) :
    Calls Try.prog 22 #[.string s] w fun e w' => e = .returned (.agg #[.int .u64 (head s), .string s]) ∧ Below w.heap.size w w' := by
  obtain ⟨b0, b1, b2, b3, b4, b5, b6, b7, hb⟩ := eight (pad8 s.data.toList) (pad8_length _)
  have hcp := keycopy s (w.alloc (.cells #[.int .u64 0, .string ⟨#[]⟩] 40)) b0 b1 b2 b3 b4 b5 b6 b7 hb
  simp only [World.size_alloc] at hcp
  have hh : head s = Lib.beNat [b0, b1, b2, b3, b4, b5, b6, b7] := by unfold head; rw [hb]
  have H8 := be8_key b0 b1 b2 b3 b4 b5 b6 b7 w
  rw [← hh] at H8
  generalize head s = H at *
  clear hh hb
  have HH : Hid _ := H8
  clear H8
  go_enter Try.func22, Try.ntmps22
  go_wp2_with fail
  go_region_with (go_at_call 25; refine Calls.mono HH.out ?_; rintro e w1 ⟨rfl, hb1, c0, c1, f0, f1⟩)
  go_wp2
  exact bodyPost_ret (v := .agg #[.int .u64 H, .string s]) (by simp [results, Try.results22, go_sem, c0, c1]) rfl ⟨rfl, (hb1.setCell (Nat.le_refl _) _).setCell (Nat.le_refl _) _⟩
end Go.Proofs.Qxb6609485a
