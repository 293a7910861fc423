/-
  'Rows.FnReverseStringRunesSaid': the row out of the walk 'law7' (YouahwRev.lean). The frame is the guide's.
-/
import Derived.Test.YouahwRev
import Derived.ProofKit
import Derived.OpenShut
import Derived.ShutString
import Derived.ChangeOld
import Derived.Below
namespace Go.Proofs.Youahw.fnReverseStringRunes
open Go.ChangeShapes Go.WideShapes Go.ChangeAt Go.RowKit
open Go.ChangeMaps (open_string shut_string)

theorem own : ownKnob Uahg.prog.godebug = none := by kernel_rfl

theorem laidOut : laidOutB Uahg.prog = true := by kernel_rfl

/-! ### THE ROW's STEP -/
set_option maxRecDepth 100000 in
theorem lifted (os : Os) (started : os.Started) (H : Type) (enc : TypeId × Value → H) :
    ReturnsInHanded {} Uahg.checked os 7 .any (Rows.fnReverseStringRunesSpec.pre6 enc Uahg.prog Uahg.f7 Rows.fnReverseStringRunesRow.domain false) (Rows.fnReverseStringRunesSpec.post enc Uahg.prog Uahg.f7 false true false false) := by
  refine returnsInHanded_of_change (C := Uahg.checked) own started (by kernel_rfl) Uahg.func7
    (ChangeSpec.witness6 (enc := enc) (C := Uahg.checked) false ⟨#[], #[.string ByteArray.empty], []⟩ 8 (by kernel_rfl) (by kernel_rfl) (by kernel_rfl) (by kernel_rfl)) ?_
  intro W base args ds gs before hval0 hW hcnd _
  have hval : ∀ (j : Nat) t v, Uahg.f7.params[j]? = some t → args[j]? = some v → Value.okWide Uahg.prog W .any base t v := hval0
  have hW' := hW
  obtain ⟨p, q, hA0, hV, rfl, hfz, hnd⟩ := hW
  have hA : DataW.TrodAll enc Uahg.prog W 0 (fun _ => true) true Uahg.f7.params.toList args.toList ds p := hA0
  rw [Uahg.params7] at hA hval
  obtain ⟨v0, vs0, d0, ds0, p0, q0, hargs, rfl, rfl, h0, r0⟩ := trodAll_cons hA
  obtain ⟨rfl, rfl, rfl⟩ := trodAll_nil r0
  obtain rfl : args = #[v0] := by cases args; simp_all
  obtain ⟨rfl, rfl⟩ := trodVars_none hV
  obtain ⟨a0, rfl, rfl, rfl, w0⟩ := open_string Uahg.underlying9 (hval 0 9 v0 rfl rfl) h0
  clear hA0 hval0
  refine (law7 a0 W).mono fun e W' ⟨he, bel⟩ => ?_
  subst he
  exact ⟨_, rfl, _, _, _, [], _, [], hW', trodAll_mk1 (shut_bool Uahg.underlying4 _), (trodAll_cons_mk (shut_string Uahg.underlying9 w0) trodAll_mk0), rfl, bel.frame _, fun h => by cases h⟩

theorem over : Rows.fnReverseStringRunesRow.holds Uahg.pinned (OpenSpec.ofChange Rows.fnReverseStringRunesSpec) :=
  OpenClaim.holds_of_wide 7 Uahg.f7 rfl rfl rfl rfl rfl rfl rfl ⟨rfl, rfl, rfl, rfl, rfl⟩ rfl rfl rfl rfl rfl (by kernel_rfl) Uahg.func7 (by kernel_rfl)
    (of_decide_eq_true (by kernel_rfl)) (by unfold Func.isWrapper; first | (rw [if_pos (by decide +kernel)]; kernel_rfl) | (rw [if_neg (by decide +kernel)]; exact ⟨rfl, rfl⟩))
    (fun os started H enc _ => lifted os started H enc)

/-- THE STATEMENT -/
theorem proved : Rows.FnReverseStringRunesSaid :=
  over
#print axioms proved
end Go.Proofs.Youahw.fnReverseStringRunes
