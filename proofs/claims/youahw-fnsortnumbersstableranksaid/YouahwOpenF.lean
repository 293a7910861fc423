/-
  OPENING AN ARGUMENT THAT IS A SLICE OF NUMBERS.
-/
import Derived.Test.YouahwMake
import Derived.ProofKit
import Derived.OpenShut
import Derived.ShutString
import Derived.ChangeOld
import Derived.Below
namespace Go.Proofs.Youahw
open Go.ChangeShapes Go.WideShapes Go.ChangeAt Go.RowKit

theorem ownF : ownKnob Uahg.prog.godebug = none := by kernel_rfl
theorem laidOutF : laidOutB Uahg.prog = true := by kernel_rfl
theorem cells26 : Uahg.prog.cellsOf 26 = 1 := by kernel_rfl

theorem trod_float {H : Type} {enc : TypeId × Value → H} {P : Program} {w : World} {base : Nat} {spare : Nat → Bool} {held : Bool} {fuel : Nat} {t : TypeId} {cs : List Value} {x : DataW H × List MemPlace} {k : FloatKind}
    (ht : P.underlying t = some (.float k)) (h : DataW.trod enc P w base spare held fuel t cs = some x) : ∃ b : Nat, cs = [.float k b] := by
  cases fuel with
  | zero => simp [DataW.trod] at h
  | succ n =>
    unfold DataW.trod at h
    rw [ht] at h
    split at h <;> simp_all

/-- What a slice of numbers that came in is: nil, or n numbers. -/
def IsNums (W : World) (ao : Option Addr) (n cap : Nat) : Prop :=
  (ao = none ∧ n = 0 ∧ cap = 0) ∨ ∃ (a : Addr) (g : Nat → Nat), ao = some a ∧ n ≤ maxLen ∧ Vals W (some a) n fun t => .float .f64 (g t)

theorem open_nums {H : Type} {enc : TypeId × Value → H} {W : World} {ao : Option Addr} {n cap : Nat} {d : DataW H} {p : List MemPlace}
    (h : DataW.Trod enc Uahg.prog W 0 (fun _ => true) true 22 (.slice ao n cap) d p) : IsNums W ao n cap := by
  obtain ⟨fuel, hf⟩ := h
  rcases DataW.trod_slice Uahg.underlying22 hf with ⟨hcs, _⟩ | ⟨a, len, cap', elems, rest, k, _, hcs, _, hb, hl, hm, hlen, hel, _, _⟩
  · simp [Value.cells] at hcs
    exact .inl hcs
  · simp [Value.cells] at hcs
    obtain ⟨rfl, rfl, rfl⟩ := hcs
    have hex : ∀ i, i < n → ∃ x : Nat, W.cell? (a.add i) = some (.float .f64 x) := by
      intro i hi
      have h1 := hel i hi
      rw [cells26, Nat.mul_one, List.getElem?_eq_getElem (by omega), Option.bind_eq_some_iff] at h1
      obtain ⟨cs', hcs', hy⟩ := h1
      obtain ⟨x, rfl⟩ := trod_float Uahg.underlying26 hy
      exact ⟨x, cell_of_cells?_one hcs'⟩
    have hch : ∀ i, ∃ x : Nat, i < n → W.cell? (a.add i) = some (.float .f64 x) := by
      intro i
      by_cases hi : i < n
      · obtain ⟨x, hx⟩ := hex i hi
        exact ⟨x, fun _ => hx⟩
      · exact ⟨0, fun h => absurd h hi⟩
    obtain ⟨g, hcell⟩ : ∃ g : Nat → Nat, ∀ t, t < n → W.cell? (a.add t) = some (.float .f64 (g t)) := ⟨fun t => Classical.choose (hch t), fun t ht => Classical.choose_spec (hch t) ht⟩
    refine .inr ⟨a, g, rfl, by omega, ?_⟩
    by_cases h0 : n = 0
    · exact .inl h0
    · obtain ⟨b, off, spot⟩ := a
      have hspot : spot = none := by simpa [Addr.add] using World.cell?_spot (hcell 0 (by omega))
      subst hspot
      exact .inr ⟨b, off, rfl, fun t ht => by have := hcell t ht; rwa [Addr.add_lit] at this⟩
end Go.Proofs.Youahw
