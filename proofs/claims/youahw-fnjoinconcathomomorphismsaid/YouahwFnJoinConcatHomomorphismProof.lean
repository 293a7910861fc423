/-
  'Rows.FnJoinConcatHomomorphismSaid': the row out of the walks of YouahwLaw6.lean. The frame is the guide's.
-/
import Derived.Test.YouahwLaw6
import Derived.Test.YouahwOpen
namespace Go.Proofs.Youahw.fnJoinConcatHomomorphism
open Go.ChangeShapes Go.WideShapes Go.ChangeAt Go.RowKit
open Go.ChangeMaps (open_string shut_string)

theorem strs_of {W : World} {ao : Option Addr} {n cap : Nat} (h : IsStrs W ao n cap) : ∃ g, n ≤ maxLen ∧ Strs W ao n g := by
  rcases h with ⟨rfl, rfl, rfl⟩ | ⟨a, g, rfl, hm, hS⟩
  · exact ⟨fun _ => ByteArray.empty, by omega, .inl rfl⟩
  · exact ⟨g, hm, hS⟩

theorem walk (sep : ByteArray) (ao bo : Option Addr) (n cap m cap2 : Nat) (w : World) (hs : sep.size ≤ maxLen) (h : IsStrs w ao n cap) (h' : IsStrs w bo m cap2) :
    Calls Uahg.prog 6 #[.string sep, .slice ao n cap, .slice bo m cap2] w fun e w' => e = .returned (.bool true) ∧ Below w.heap.size w w' := by
  obtain ⟨f, h1, h2⟩ := strs_of h
  obtain ⟨g, h3, h4⟩ := strs_of h'
  exact law6 ao bo n cap m cap2 sep f g w h1 h3 hs h2 h4

set_option maxRecDepth 100000 in
theorem lifted (os : Os) (started : os.Started) (H : Type) (enc : TypeId × Value → H) :
    ReturnsInHanded {} Uahg.checked os 6 .any (Rows.fnJoinConcatHomomorphismSpec.pre6 enc Uahg.prog Uahg.f6 Rows.fnJoinConcatHomomorphismRow.domain false) (Rows.fnJoinConcatHomomorphismSpec.post enc Uahg.prog Uahg.f6 false true false false) := by
  refine returnsInHanded_of_change (C := Uahg.checked) own started (by kernel_rfl) Uahg.func6
    (ChangeSpec.witness6 (enc := enc) (C := Uahg.checked) false ⟨#[], #[.string ByteArray.empty, .slice none 0 0, .slice none 0 0], []⟩ 8 (by kernel_rfl) (by kernel_rfl) (by kernel_rfl) (by kernel_rfl)) ?_
  intro W base args ds gs before hval0 hW hcnd _
  have hval : ∀ (j : Nat) t v, Uahg.f6.params[j]? = some t → args[j]? = some v → Value.okWide Uahg.prog W .any base t v := hval0
  have hW' := hW
  obtain ⟨p, q, hA0, hV, rfl, hfz, hnd⟩ := hW
  have hA : DataW.TrodAll enc Uahg.prog W 0 (fun _ => true) true Uahg.f6.params.toList args.toList ds p := hA0
  rw [Uahg.params6] at hA hval
  obtain ⟨v0, vs0, d0, ds0, p0, q0, hargs, rfl, rfl, h0, r0⟩ := trodAll_cons hA
  obtain ⟨v1, vs1, d1, ds1, p1, q1, rfl, rfl, rfl, h1, r1⟩ := trodAll_cons r0
  obtain ⟨v2, vs2, d2, ds2, p2, q2, rfl, rfl, rfl, h2, r2⟩ := trodAll_cons r1
  obtain ⟨rfl, rfl, rfl⟩ := trodAll_nil r2
  obtain rfl : args = #[v0, v1, v2] := by cases args; simp_all
  obtain ⟨rfl, rfl⟩ := trodVars_none hV
  obtain ⟨a0, rfl, rfl, rfl, w0⟩ := open_string Uahg.underlying9 (hval 0 9 v0 rfl rfl) h0
  obtain ⟨a1, len1, cap1, rfl⟩ := okWide_slice Uahg.underlying27 (hval 1 27 v1 rfl rfl)
  have k1 := h1
  have lt1 : ∀ x ∈ p1, x.block < W.heap.size := by obtain ⟨m, hm⟩ := k1; exact DataW.trod_lt m _ _ _ hm
  have w1 := open_strs h1
  obtain ⟨a2, len2, cap2, rfl⟩ := okWide_slice Uahg.underlying27 (hval 2 27 v2 rfl rfl)
  have k2 := h2
  have lt2 : ∀ x ∈ p2, x.block < W.heap.size := by obtain ⟨m, hm⟩ := k2; exact DataW.trod_lt m _ _ _ hm
  have w2 := open_strs h2
  clear hA0 hval0
  refine (walk a0 a1 a2 len1 cap1 len2 cap2 W w0 w1 w2).mono fun e W' ⟨he, bel⟩ => ?_
  subst he
  exact ⟨_, rfl, _, _, _, [], _, [], hW', trodAll_mk1 (shut_bool Uahg.underlying4 _), (trodAll_cons_mk (shut_string Uahg.underlying9 w0) (trodAll_cons_mk (Below.trod laidOut (by kernel_rfl) (of_decide_eq_true (by kernel_rfl)) k1 bel lt1) (trodAll_cons_mk (Below.trod laidOut (by kernel_rfl) (of_decide_eq_true (by kernel_rfl)) k2 bel lt2) trodAll_mk0))), rfl, bel.frame _, fun h => by cases h⟩

theorem over : Rows.fnJoinConcatHomomorphismRow.holds Uahg.pinned (OpenSpec.ofChange Rows.fnJoinConcatHomomorphismSpec) :=
  OpenClaim.holds_of_wide 6 Uahg.f6 rfl rfl rfl rfl rfl rfl rfl ⟨rfl, rfl, rfl, rfl, rfl⟩ rfl rfl rfl rfl rfl (by kernel_rfl) Uahg.func6 (by kernel_rfl)
    (of_decide_eq_true (by kernel_rfl)) (by unfold Func.isWrapper; first | (rw [if_pos (by decide +kernel)]; kernel_rfl) | (rw [if_neg (by decide +kernel)]; exact ⟨rfl, rfl⟩))
    (fun os started H enc _ => lifted os started H enc)

/-- THE STATEMENT -/
theorem proved : Rows.FnJoinConcatHomomorphismSaid := over
#print axioms proved
end Go.Proofs.Youahw.fnJoinConcatHomomorphism
