/-
  OPENING AN ARGUMENT THAT IS A SLICE OF STRINGS.
-/
import Derived.Test.YouahwStrs
import Derived.ProofKit
import Derived.OpenShut
import Derived.ShutString
import Derived.ChangeOld
import Derived.Below
namespace Go.Proofs.Youahw
open Go.ChangeShapes Go.WideShapes Go.ChangeAt Go.RowKit

theorem own : ownKnob Uahg.prog.godebug = none := by kernel_rfl
theorem laidOut : laidOutB Uahg.prog = true := by kernel_rfl
theorem cells9 : Uahg.prog.cellsOf 9 = 1 := by kernel_rfl

/-- What a slice of strings that came in is: nil, or n strings. -/
def IsStrs (W : World) (ao : Option Addr) (n cap : Nat) : Prop :=
  (ao = none ∧ n = 0 ∧ cap = 0) ∨ ∃ a g, ao = some a ∧ n ≤ maxLen ∧ Strs W (some a) n g

theorem open_strs {H : Type} {enc : TypeId × Value → H} {W : World} {ao : Option Addr} {n cap : Nat} {d : DataW H} {p : List MemPlace}
    (h : DataW.Trod enc Uahg.prog W 0 (fun _ => true) true 27 (.slice ao n cap) d p) : IsStrs W ao n cap := by
  obtain ⟨fuel, hf⟩ := h
  rcases open_strings Uahg.underlying27 Uahg.underlying9 cells9 hf with ⟨hcs, hx⟩ | ⟨a, len', cap', ss, hcs, _, hl, hm, hz, hx, hcell, hws⟩
  · simp [Value.cells] at hcs
    exact .inl hcs
  · simp [Value.cells] at hcs
    obtain ⟨rfl, rfl, rfl⟩ := hcs
    simp only [if_true] at hz
    refine .inr ⟨a, fun t => ss.getD t ByteArray.empty, rfl, by omega, ?_⟩
    by_cases h0 : n = 0
    · exact .inl h0
    · obtain ⟨b, off, spot⟩ := a
      have hspot : spot = none := by simpa [Addr.add] using World.cell?_spot (hcell 0 (by omega))
      subst hspot
      exact .inr ⟨b, off, rfl, fun t ht => by have := hcell t (by omega); rwa [Addr.add_lit] at this⟩
end Go.Proofs.Youahw
