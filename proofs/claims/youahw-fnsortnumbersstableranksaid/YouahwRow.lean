/-
  A ROW OF THE CALL's OWN, by its cells; and small facts that the walks use.
-/
import Derived.WalkKit
namespace Go.Proofs.Youahw
open Go.RowKit

/-- Block b: its first n cells hold g 0, .., g (n - 1); none of its cells is frozen. -/
structure Row (w : World) (b n : Nat) (g : Nat → Value) : Prop where
  lt : b < w.heap.size
  cell : ∀ t, t < n → w.cell? ⟨b, t, none⟩ = some (g t)
  free : ∀ t, w.frozen? ⟨b, t, none⟩ = false

theorem Row.congr {w : World} {b n : Nat} {g g' : Nat → Value} (h : Row w b n g) (e : ∀ t, t < n → g t = g' t) : Row w b n g' :=
  ⟨h.lt, fun t ht => by rw [← e t ht]; exact h.cell t ht, h.free⟩

theorem Row.shrink {w : World} {b n m : Nat} {g : Nat → Value} (h : Row w b n g) (hm : m ≤ n) : Row w b m g :=
  ⟨h.lt, fun t ht => h.cell t (by omega), h.free⟩

theorem Row.drew {w : World} {b n : Nat} {g : Nat → Value} (h : Row w b n g) : Row w.drew b n g := ⟨h.lt, h.cell, h.free⟩

theorem Row.alloc {w : World} {b n : Nat} {g : Nat → Value} (h : Row w b n g) (o : Obj) : Row (w.alloc o) b n g :=
  ⟨by have := h.lt; simp; omega, fun t ht => by rw [World.cell?_alloc_old]; exact h.cell t ht; have := h.lt; simp; omega, fun t => by rw [World.frozen?_alloc_old]; exact h.free t; have := h.lt; simp; omega⟩

theorem Row.new (w : World) (C : Array Value) (e : TypeId) (n : Nat) (g : Nat → Value) (h : ∀ t, t < n → C[t]? = some (g t)) : Row (w.alloc (.cells C e)) w.heap.size n g :=
  ⟨by simp, fun t ht => by rw [World.cell?_alloc_new]; exact h t ht, fun t => by rw [World.frozen?_alloc_new]⟩

theorem Row.other {w : World} {b n : Nat} {g : Nat → Value} (h : Row w b n g) {a : Addr} (ha : a.block ≠ b) (v : Value) : Row (w.setCell a v) b n g :=
  ⟨by simpa using h.lt, fun t ht => by rw [World.cell?_setCell_other]; exact h.cell t ht; intro e; subst e; exact ha rfl, fun t => by rw [World.frozen?_setCell]; exact h.free t⟩

theorem Row.set {w : World} {b n : Nat} {g : Nat → Value} (h : Row w b n g) (j : Nat) (hj : j < n) (v : Value) : Row (w.setCell ⟨b, j, none⟩ v) b n (fun t => if t = j then v else g t) := by
  refine ⟨by simpa using h.lt, fun t ht => ?_, fun t => by rw [World.frozen?_setCell]; exact h.free t⟩
  by_cases e : t = j
  · subst e
    rw [if_pos rfl, World.cell?_setCell_same _ _ _ (h.cell t ht)]
  · rw [if_neg e, World.cell?_setCell_other]
    · exact h.cell t ht
    · intro e'; exact e (by injection e' with _ h2; exact h2.symm)

theorem Row.below {B : Nat} {w w' : World} {b n : Nat} {g : Nat → Value} (h : Row w b n g) (hb : Below B w w') (hB : b < B) : Row w' b n g :=
  ⟨by have := h.lt; have := hb.size; omega, fun t ht => by rw [hb.cell (p := ⟨b, t, none⟩) hB]; exact h.cell t ht, fun t => by rw [hb.frozen (p := ⟨b, t, none⟩) hB]; exact h.free t⟩

/-- A call behind a call: the second's own blocks begin where the first's heap ends. -/
theorem Below.step {B : Nat} {w w1 w2 : World} (h : Below B w w1) (hB : B ≤ w1.heap.size) (k : Below w1.heap.size w1 w2) : Below B w w2 := h.trans (k.mono hB)

theorem ret_bool {a b : Bool} (h : a = b) : Ending.returned (.bool a) = .returned (.bool b) := by rw [h]

end Go.Proofs.Youahw
