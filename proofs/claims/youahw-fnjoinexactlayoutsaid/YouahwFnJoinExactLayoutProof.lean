/-
  'Rows.FnJoinExactLayoutSaid': the row out of the walks of YouahwLaw5.lean. The frame is the guide's.
-/
import Derived.Test.YouahwLaw5
import Derived.Test.YouahwOpen
namespace Go.Proofs.Youahw.fnJoinExactLayout
open Go.ChangeShapes Go.WideShapes Go.ChangeAt Go.RowKit
open Go.ChangeMaps (open_string shut_string)

theorem walk (sep : ByteArray) (ao : Option Addr) (n cap : Nat) (w : World) (hs : sep.size ≤ maxLen) (h : IsStrs w ao n cap) :
    Calls Uahg.prog 5 #[.string sep, .slice ao n cap] w fun e w' => e = .returned (.bool true) ∧ Below w.heap.size w w' := by
  rcases h with ⟨rfl, rfl, rfl⟩ | ⟨a, g, rfl, hm, hS⟩
  · exact law5_nil sep w hs
  · exact law5_some a n cap sep g w hs hm hS

set_option maxRecDepth 100000 in
theorem lifted (os : Os) (started : os.Started) (H : Type) (enc : TypeId × Value → H) :
    ReturnsInHanded {} Uahg.checked os 5 .any (Rows.fnJoinExactLayoutSpec.pre6 enc Uahg.prog Uahg.f5 Rows.fnJoinExactLayoutRow.domain false) (Rows.fnJoinExactLayoutSpec.post enc Uahg.prog Uahg.f5 false true false false) := by
  refine returnsInHanded_of_change (C := Uahg.checked) own started (by kernel_rfl) Uahg.func5
    (ChangeSpec.witness6 (enc := enc) (C := Uahg.checked) false ⟨#[], #[.string ByteArray.empty, .slice none 0 0], []⟩ 8 (by kernel_rfl) (by kernel_rfl) (by kernel_rfl) (by kernel_rfl)) ?_
  intro W base args ds gs before hval0 hW hcnd _
  have hval : ∀ (j : Nat) t v, Uahg.f5.params[j]? = some t → args[j]? = some v → Value.okWide Uahg.prog W .any base t v := hval0
  have hW' := hW
  obtain ⟨p, q, hA0, hV, rfl, hfz, hnd⟩ := hW
  have hA : DataW.TrodAll enc Uahg.prog W 0 (fun _ => true) true Uahg.f5.params.toList args.toList ds p := hA0
  rw [Uahg.params5] at hA hval
  obtain ⟨v0, vs0, d0, ds0, p0, q0, hargs, rfl, rfl, h0, r0⟩ := trodAll_cons hA
  obtain ⟨v1, vs1, d1, ds1, p1, q1, rfl, rfl, rfl, h1, r1⟩ := trodAll_cons r0
  obtain ⟨rfl, rfl, rfl⟩ := trodAll_nil r1
  obtain rfl : args = #[v0, v1] := by cases args; simp_all
  obtain ⟨rfl, rfl⟩ := trodVars_none hV
  obtain ⟨a0, rfl, rfl, rfl, w0⟩ := open_string Uahg.underlying9 (hval 0 9 v0 rfl rfl) h0
  obtain ⟨a1, len1, cap1, rfl⟩ := okWide_slice Uahg.underlying27 (hval 1 27 v1 rfl rfl)
  have k1 := h1
  have lt1 : ∀ x ∈ p1, x.block < W.heap.size := by obtain ⟨m, hm⟩ := k1; exact DataW.trod_lt m _ _ _ hm
  have w1 := open_strs h1
  clear hA0 hval0
  refine (walk a0 a1 len1 cap1 W w0 w1).mono fun e W' ⟨he, bel⟩ => ?_
  subst he
  exact ⟨_, rfl, _, _, _, [], _, [], hW', trodAll_mk1 (shut_bool Uahg.underlying4 _), (trodAll_cons_mk (shut_string Uahg.underlying9 w0) (trodAll_cons_mk (Below.trod laidOut (by kernel_rfl) (of_decide_eq_true (by kernel_rfl)) k1 bel lt1) trodAll_mk0)), rfl, bel.frame _, fun h => by cases h⟩

theorem over : Rows.fnJoinExactLayoutRow.holds Uahg.pinned (OpenSpec.ofChange Rows.fnJoinExactLayoutSpec) :=
  OpenClaim.holds_of_wide 5 Uahg.f5 rfl rfl rfl rfl rfl rfl rfl ⟨rfl, rfl, rfl, rfl, rfl⟩ rfl rfl rfl rfl rfl (by kernel_rfl) Uahg.func5 (by kernel_rfl)
    (of_decide_eq_true (by kernel_rfl)) (by unfold Func.isWrapper; first | (rw [if_pos (by decide +kernel)]; kernel_rfl) | (rw [if_neg (by decide +kernel)]; exact ⟨rfl, rfl⟩))
    (fun os started H enc _ => lifted os started H enc)

/-- THE STATEMENT -/
theorem proved : Rows.FnJoinExactLayoutSaid := over
#print axioms proved
end Go.Proofs.Youahw.fnJoinExactLayout
