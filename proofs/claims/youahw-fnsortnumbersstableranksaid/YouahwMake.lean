/-
  'make' AND 'copy' AT SIZES THAT ARE VARIABLES, as run equations for the walk; what a slice that is read holds.
-/
import Derived.Test.YouahwRows
import Derived.Test.YouahwRow
import Derived.Laws.CopyOwn
import Derived.Laws.OwnMore
namespace Go.Proofs.Youahw
open Go.RowKit

/-- The slice 'ao' of n elements holds the values g 0, .., g (n - 1). -/
def Vals (w : World) (ao : Option Addr) (n : Nat) (g : Nat → Value) : Prop :=
  n = 0 ∨ ∃ b off, ao = some ⟨b, off, none⟩ ∧ ∀ t, t < n → w.cell? ⟨b, off + t, none⟩ = some (g t)

theorem make_row (t e : TypeId) (z : Value) (bytes n : Nat) (hu : Uahg.prog.underlying t = some (.slice e)) (hinfo : (Uahg.prog.info? e).map (fun i => (i.zero, i.size, i.bytes)) = some (some z, 1, bytes))
    (hz : z.cells = #[z]) (hb : bytes * n ≤ 281474976710656) (hn : n ≤ maxLen) :
    ∃ C : Array Value, C.size = n ∧ (∀ j, j < n → C[j]? = some z) ∧
      ∀ W : World, (Instr.makeSlice t (.int .i64 (n : Int)) (.int .i64 (n : Int))).run Uahg.prog W = .ok (.slice (some ⟨W.heap.size, 0, none⟩) n n) (W.alloc (.cells C e)) := by
  obtain ⟨i, hi, h0, h1, h2⟩ := info_parts hinfo
  refine ⟨madeCells z.cells (n * i.size), ?_, fun j hj => ?_, fun W => ?_⟩
  · rw [size_madeCells, h1]; omega
  · rw [hz, h1, Nat.mul_one]
    have e1 : (madeCells #[z] n)[j]? = (madeCells #[z] n).toList[j]? := by simp
    rw [e1, toList_madeCells_one, List.getElem?_replicate, if_pos hj]
  · have hr := run_make (P := Uahg.prog) W t e i z hu hi h0 .i64 .i64 (n : Int) (n : Int) (by omega) (by omega) (by rw [h2, ← Int.natCast_mul]; exact Int.ofNat_le.2 hb) (by unfold maxLen at hn; omega)
    simpa using hr

theorem info9 : (Uahg.prog.info? 9).map (fun i => (i.zero, i.size, i.bytes)) = some (some (.string ByteArray.empty), 1, 16) := by kernel_rfl
theorem info20 : (Uahg.prog.info? 20).map (fun i => (i.zero, i.size, i.bytes)) = some (some .nilIface, 1, 16) := by kernel_rfl
theorem info26 : (Uahg.prog.info? 26).map (fun i => (i.zero, i.size, i.bytes)) = some (some (.float .f64 0), 1, 8) := by kernel_rfl
theorem size9 : (Uahg.prog.info? 9).map (·.size) = some 1 := by kernel_rfl
theorem size26 : (Uahg.prog.info? 26).map (·.size) = some 1 := by kernel_rfl

theorem make27 (n : Nat) (hn : n ≤ 4194304) : ∃ C : Array Value, C.size = n ∧ (∀ j, j < n → C[j]? = some (.string ByteArray.empty)) ∧
    ∀ W : World, (Instr.makeSlice 27 (.int .i64 (n : Int)) (.int .i64 (n : Int))).run Uahg.prog W = .ok (.slice (some ⟨W.heap.size, 0, none⟩) n n) (W.alloc (.cells C 9)) :=
  make_row 27 9 _ 16 n Uahg.underlying27 info9 rfl (by omega) (by unfold maxLen; omega)
theorem make38 (n : Nat) (hn : n ≤ 4194304) : ∃ C : Array Value, C.size = n ∧ (∀ j, j < n → C[j]? = some .nilIface) ∧
    ∀ W : World, (Instr.makeSlice 38 (.int .i64 (n : Int)) (.int .i64 (n : Int))).run Uahg.prog W = .ok (.slice (some ⟨W.heap.size, 0, none⟩) n n) (W.alloc (.cells C 20)) :=
  make_row 38 20 _ 16 n Uahg.underlying38 info20 rfl (by omega) (by unfold maxLen; omega)
theorem make22 (n : Nat) (hn : n ≤ 4194304) : ∃ C : Array Value, C.size = n ∧ (∀ j, j < n → C[j]? = some (.float .f64 0)) ∧
    ∀ W : World, (Instr.makeSlice 22 (.int .i64 (n : Int)) (.int .i64 (n : Int))).run Uahg.prog W = .ok (.slice (some ⟨W.heap.size, 0, none⟩) n n) (W.alloc (.cells C 26)) :=
  make_row 22 26 _ 8 n Uahg.underlying22 info26 rfl (by omega) (by unfold maxLen; omega)

/-- 'copy(zzc, xs)' into the row that was just made. -/
theorem copy_row (t e : TypeId) (hu : Uahg.prog.underlying t = some (.slice e)) (hs : (Uahg.prog.info? e).map (·.size) = some 1) (w : World) (C : Array Value) (n : Nat) (hC : C.size = n) (ao : Option Addr) (cap : Nat) (g : Nat → Value)
    (h1 : ∀ t, t < n → (g t).oneCell' = true) (h : Vals w ao n g) :
    ∃ W2 : World, (∀ ty, (Builtin.copy_ #[t, t] ty #[.slice (some ⟨w.heap.size, 0, none⟩) n n, .slice ao n cap]).run Uahg.prog (w.alloc (.cells C e)) = .ok (goInt n) W2) ∧ Row W2 w.heap.size n g ∧ Below w.heap.size w W2 := by
  rcases h with rfl | ⟨b, off, rfl, hc⟩
  · refine ⟨w.alloc (.cells C e), fun ty => ?_, Row.new w C e 0 g (fun t ht => by omega), (Below.refl _ _).alloc (Nat.le_refl _) _⟩
    exact run_copy_none _ _ _ _ e _ _ _ _ _ _ hu hs (by simp)
  · have hg : (w.alloc (.cells C e)).heap[w.heap.size]? = some (.cells C e (0, 0)) := heap_alloc_new w _
    have hblk : ∀ t, t < n → b < w.heap.size := fun t ht => World.block_lt_of_cell? _ _ (hc t ht)
    refine ⟨_, fun ty => (run_copy_row (P := Uahg.prog) (w.alloc (.cells C e)) t t ty e w.heap.size 0 n n ⟨b, off, none⟩ n cap C e ((List.range n).map g) hu hs hg (by simp) ?_ (by simp; omega) ?_).trans (by simp; rfl), ?_, ?_⟩
    · intro j v hj
      obtain ⟨hjn, rfl⟩ : j < n ∧ g j = v := by
        rw [List.getElem?_map, Option.map_eq_some_iff] at hj
        obtain ⟨k, hk, rfl⟩ := hj
        have := (List.getElem?_eq_some_iff.1 hk)
        obtain ⟨h3, h4⟩ := this
        simp at h3 h4
        subst h4
        exact ⟨h3, rfl⟩
      rw [Addr.add_lit, World.cell?_alloc_old _ _ _ (by have := hblk j hjn; simp; omega)]
      exact hc j hjn
    · intro v hv
      simp at hv
      obtain ⟨k, hk, rfl⟩ := hv
      exact h1 k hk
    · have hh := setRow_heap (w.alloc (.cells C e)) w.heap.size _ (List.map g (List.range n) ++ List.drop n C.toList).toArray e _ hg
      refine ⟨by simp, fun t ht => ?_, fun t => ?_⟩
      · rw [cell_of_row _ _ _ _ _ _ hh]
        rw [List.getElem?_toArray, List.getElem?_append_left (by simpa using ht)]
        simp [ht]
      · exact frozen_of_row _ _ _ _ _ hh
    · exact below_setRow ((Below.refl _ _).alloc (Nat.le_refl _) _) (Nat.le_refl _) _
end Go.Proofs.Youahw
