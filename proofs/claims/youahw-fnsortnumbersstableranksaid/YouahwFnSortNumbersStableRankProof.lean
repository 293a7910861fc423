/-
  'Rows.FnSortNumbersStableRankSaid': the row out of the walks of YouahwLaw3.lean. The frame is the guide's.
-/
import Derived.Test.YouahwLaw3
import Derived.Test.YouahwOpenF
namespace Go.Proofs.Youahw.fnSortNumbersStableRank
open Go.ChangeShapes Go.WideShapes Go.ChangeAt Go.RowKit

theorem walk (ao : Option Addr) (n cap : Nat) (w : World) (h : IsNums w ao n cap) :
    Calls Uahg.prog 3 #[.slice ao n cap] w fun e w' => e = .returned (.bool true) ∧ Below w.heap.size w w' := by
  rcases h with ⟨rfl, rfl, rfl⟩ | ⟨a, g, rfl, hm, hS⟩
  · exact law3_nil w
  · exact law3_some a n cap g w hm hS

set_option maxRecDepth 100000 in
theorem lifted (os : Os) (started : os.Started) (H : Type) (enc : TypeId × Value → H) :
    ReturnsInHanded {} Uahg.checked os 3 .any (Rows.fnSortNumbersStableRankSpec.pre6 enc Uahg.prog Uahg.f3 Rows.fnSortNumbersStableRankRow.domain false) (Rows.fnSortNumbersStableRankSpec.post enc Uahg.prog Uahg.f3 false true false false) := by
  refine returnsInHanded_of_change (C := Uahg.checked) ownF started (by kernel_rfl) Uahg.func3
    (ChangeSpec.witness6 (enc := enc) (C := Uahg.checked) false ⟨#[], #[.slice none 0 0], []⟩ 8 (by kernel_rfl) (by kernel_rfl) (by kernel_rfl) (by kernel_rfl)) ?_
  intro W base args ds gs before hval0 hW hcnd _
  have hval : ∀ (j : Nat) t v, Uahg.f3.params[j]? = some t → args[j]? = some v → Value.okWide Uahg.prog W .any base t v := hval0
  have hW' := hW
  obtain ⟨p, q, hA0, hV, rfl, hfz, hnd⟩ := hW
  have hA : DataW.TrodAll enc Uahg.prog W 0 (fun _ => true) true Uahg.f3.params.toList args.toList ds p := hA0
  rw [Uahg.params3] at hA hval
  obtain ⟨v0, vs0, d0, ds0, p0, q0, hargs, rfl, rfl, h0, r0⟩ := trodAll_cons hA
  obtain ⟨rfl, rfl, rfl⟩ := trodAll_nil r0
  obtain rfl : args = #[v0] := by cases args; simp_all
  obtain ⟨rfl, rfl⟩ := trodVars_none hV
  obtain ⟨a0, len0, cap0, rfl⟩ := okWide_slice Uahg.underlying22 (hval 0 22 v0 rfl rfl)
  have k0 := h0
  have lt0 : ∀ x ∈ p0, x.block < W.heap.size := by obtain ⟨m, hm⟩ := k0; exact DataW.trod_lt m _ _ _ hm
  have w0 := open_nums h0
  clear hA0 hval0
  refine (walk a0 len0 cap0 W w0).mono fun e W' ⟨he, bel⟩ => ?_
  subst he
  exact ⟨_, rfl, _, _, _, [], _, [], hW', trodAll_mk1 (shut_bool Uahg.underlying4 _), (trodAll_cons_mk (Below.trod laidOutF (by kernel_rfl) (of_decide_eq_true (by kernel_rfl)) k0 bel lt0) trodAll_mk0), rfl, bel.frame _, fun h => by cases h⟩

theorem over : Rows.fnSortNumbersStableRankRow.holds Uahg.pinned (OpenSpec.ofChange Rows.fnSortNumbersStableRankSpec) :=
  OpenClaim.holds_of_wide 3 Uahg.f3 rfl rfl rfl rfl rfl rfl rfl ⟨rfl, rfl, rfl, rfl, rfl⟩ rfl rfl rfl rfl rfl (by kernel_rfl) Uahg.func3 (by kernel_rfl)
    (of_decide_eq_true (by kernel_rfl)) (by unfold Func.isWrapper; first | (rw [if_pos (by decide +kernel)]; kernel_rfl) | (rw [if_neg (by decide +kernel)]; exact ⟨rfl, rfl⟩))
    (fun os started H enc _ => lifted os started H enc)

/-- THE STATEMENT -/
theorem proved : Rows.FnSortNumbersStableRankSaid := over
#print axioms proved
end Go.Proofs.Youahw.fnSortNumbersStableRank
