/-
  No cell of these rows narrows 'for every input' (looked for: loops, veiled, ifaces, maps, wideKeys, modest, calm, conditions, laid).
  DERIVED. THE GIVEN ROWS OF THIS SEAT. 6 by the template 'for every input the law returns true; each argument reads behind the call as it read before'; 0 by the template 'total and deterministic' (their statements: YouahwTotals.lean).
  GIVEN WITH THE SEED: the statements are not yours to turn. If you find one false, say at which input.
  Laid BY PROGRAM, IN A SANDBOX (cutbox-rows.mjs): the forced cells as the released guide's own fill.sh prints them over the translation de76e1f927908a83… (all of the seat's roots in one cut). By AI agents, Wed Nov 11 2026. No macro, syntax, notation, axiom, sorry.
-/
import Derived.Test.YouahwChecked
import GoSem.Claim
import GoSem.ClaimJoined
import GoSem.ClaimMapViews
import Derived.JoinedTies
import Derived.KernelRfl
namespace Go.Proofs.Youahw
/- THE CELL 'sum', in the pinned program and in every row, IS THE sha256 OF THE DUMP (.gsa) THAT YouahwProg.lean LOADS. Nothing in Lean hashes anything: it is a label: what it is worth is what the hold of that sum in a sandbox is worth. -/
noncomputable def Uahg.pinned : Pinned := { name := "youahw", sum := "de76e1f927908a83c16d1f0645fced54a358700efc56a1b471e846472674538c", checked := Uahg.checked }
namespace Rows
def none {H : Type} : Left H := { results := [], args := [] }

/-- 'zzlaws_root_b9.FnSortNumbersStableRank': WHATEVER THE INPUT: true; the input reads as it did. -/
def fnSortNumbersStableRankSpec : ChangeSpec := { name := "fnSortNumbersStableRank", fn := fun _ => fun
  | [d] => { results := [.lit (.bool true)], args := [d] }
  | _ => none }
def fnSortNumbersStableRankRow : OpenClaim := { program := "youahw", sum := "de76e1f927908a83c16d1f0645fced54a358700efc56a1b471e846472674538c", func := "github.com/jmespath/go-jmespath/zzlaws_root_b9.FnSortNumbersStableRank", spec := "fnSortNumbersStableRank", unfollowed := true, recurses := true, apart := false }
def FnSortNumbersStableRankSaid : Prop := fnSortNumbersStableRankRow.holds Uahg.pinned (OpenSpec.ofChange fnSortNumbersStableRankSpec)

/-- ITS FALSE NEIGHBOUR: 'it returns false'. Refute it at one input. -/
def fnSortNumbersStableRankWrong : ChangeSpec := { name := "fnSortNumbersStableRank", fn := fun _ => fun
  | [d] => { results := [.lit (.bool false)], args := [d] }
  | _ => none }
def FnSortNumbersStableRankWrongFalsely : Prop := fnSortNumbersStableRankRow.holds Uahg.pinned (OpenSpec.ofChange fnSortNumbersStableRankWrong)

/-- 'zzlaws_root_b9.FnSortStringsStableRank': WHATEVER THE INPUT: true; the input reads as it did. -/
def fnSortStringsStableRankSpec : ChangeSpec := { name := "fnSortStringsStableRank", fn := fun _ => fun
  | [d] => { results := [.lit (.bool true)], args := [d] }
  | _ => none }
def fnSortStringsStableRankRow : OpenClaim := { program := "youahw", sum := "de76e1f927908a83c16d1f0645fced54a358700efc56a1b471e846472674538c", func := "github.com/jmespath/go-jmespath/zzlaws_root_b9.FnSortStringsStableRank", spec := "fnSortStringsStableRank", unfollowed := true, recurses := true, apart := false }
def FnSortStringsStableRankSaid : Prop := fnSortStringsStableRankRow.holds Uahg.pinned (OpenSpec.ofChange fnSortStringsStableRankSpec)

/-- ITS FALSE NEIGHBOUR: 'it returns false'. Refute it at one input. -/
def fnSortStringsStableRankWrong : ChangeSpec := { name := "fnSortStringsStableRank", fn := fun _ => fun
  | [d] => { results := [.lit (.bool false)], args := [d] }
  | _ => none }
def FnSortStringsStableRankWrongFalsely : Prop := fnSortStringsStableRankRow.holds Uahg.pinned (OpenSpec.ofChange fnSortStringsStableRankWrong)

/-- 'zzlaws_root_b9.FnJoinExactLayout': WHATEVER THE INPUT: true; the input reads as it did. -/
def fnJoinExactLayoutSpec : ChangeSpec := { name := "fnJoinExactLayout", fn := fun _ => fun
  | [d1, d2] => { results := [.lit (.bool true)], args := [d1, d2] }
  | _ => none }
def fnJoinExactLayoutRow : OpenClaim := { program := "youahw", sum := "de76e1f927908a83c16d1f0645fced54a358700efc56a1b471e846472674538c", func := "github.com/jmespath/go-jmespath/zzlaws_root_b9.FnJoinExactLayout", spec := "fnJoinExactLayout", inPlace := ["internal/abi.NoEscape", "internal/bytealg.MakeNoZero"], apart := false }
def FnJoinExactLayoutSaid : Prop := fnJoinExactLayoutRow.holds Uahg.pinned (OpenSpec.ofChange fnJoinExactLayoutSpec)

/-- ITS FALSE NEIGHBOUR: 'it returns false'. Refute it at one input. -/
def fnJoinExactLayoutWrong : ChangeSpec := { name := "fnJoinExactLayout", fn := fun _ => fun
  | [d1, d2] => { results := [.lit (.bool false)], args := [d1, d2] }
  | _ => none }
def FnJoinExactLayoutWrongFalsely : Prop := fnJoinExactLayoutRow.holds Uahg.pinned (OpenSpec.ofChange fnJoinExactLayoutWrong)

/-- 'zzlaws_root_b9.FnJoinConcatHomomorphism': WHATEVER THE INPUT: true; the input reads as it did. -/
def fnJoinConcatHomomorphismSpec : ChangeSpec := { name := "fnJoinConcatHomomorphism", fn := fun _ => fun
  | [d1, d2, d3] => { results := [.lit (.bool true)], args := [d1, d2, d3] }
  | _ => none }
def fnJoinConcatHomomorphismRow : OpenClaim := { program := "youahw", sum := "de76e1f927908a83c16d1f0645fced54a358700efc56a1b471e846472674538c", func := "github.com/jmespath/go-jmespath/zzlaws_root_b9.FnJoinConcatHomomorphism", spec := "fnJoinConcatHomomorphism", inPlace := ["internal/abi.NoEscape", "internal/bytealg.MakeNoZero"], apart := false }
def FnJoinConcatHomomorphismSaid : Prop := fnJoinConcatHomomorphismRow.holds Uahg.pinned (OpenSpec.ofChange fnJoinConcatHomomorphismSpec)

/-- ITS FALSE NEIGHBOUR: 'it returns false'. Refute it at one input. -/
def fnJoinConcatHomomorphismWrong : ChangeSpec := { name := "fnJoinConcatHomomorphism", fn := fun _ => fun
  | [d1, d2, d3] => { results := [.lit (.bool false)], args := [d1, d2, d3] }
  | _ => none }
def FnJoinConcatHomomorphismWrongFalsely : Prop := fnJoinConcatHomomorphismRow.holds Uahg.pinned (OpenSpec.ofChange fnJoinConcatHomomorphismWrong)

/-- 'zzlaws_root_b9.FnReverseStringRunes': WHATEVER THE INPUT: true; the input reads as it did. -/
def fnReverseStringRunesSpec : ChangeSpec := { name := "fnReverseStringRunes", fn := fun _ => fun
  | [d] => { results := [.lit (.bool true)], args := [d] }
  | _ => none }
def fnReverseStringRunesRow : OpenClaim := { program := "youahw", sum := "de76e1f927908a83c16d1f0645fced54a358700efc56a1b471e846472674538c", func := "github.com/jmespath/go-jmespath/zzlaws_root_b9.FnReverseStringRunes", spec := "fnReverseStringRunes", apart := false }
def FnReverseStringRunesSaid : Prop := fnReverseStringRunesRow.holds Uahg.pinned (OpenSpec.ofChange fnReverseStringRunesSpec)

/-- ITS FALSE NEIGHBOUR: 'it returns false'. Refute it at one input. -/
def fnReverseStringRunesWrong : ChangeSpec := { name := "fnReverseStringRunes", fn := fun _ => fun
  | [d] => { results := [.lit (.bool false)], args := [d] }
  | _ => none }
def FnReverseStringRunesWrongFalsely : Prop := fnReverseStringRunesRow.holds Uahg.pinned (OpenSpec.ofChange fnReverseStringRunesWrong)

/-- 'zzlaws_root_b9.FnReverseArrayExact': WHATEVER THE INPUT: true; the input reads as it did. -/
def fnReverseArrayExactSpec : ChangeSpec := { name := "fnReverseArrayExact", fn := fun _ => fun
  | [d] => { results := [.lit (.bool true)], args := [d] }
  | _ => none }
def fnReverseArrayExactRow : OpenClaim := { program := "youahw", sum := "de76e1f927908a83c16d1f0645fced54a358700efc56a1b471e846472674538c", func := "github.com/jmespath/go-jmespath/zzlaws_root_b9.FnReverseArrayExact", spec := "fnReverseArrayExact", apart := false }
def FnReverseArrayExactSaid : Prop := fnReverseArrayExactRow.holds Uahg.pinned (OpenSpec.ofChange fnReverseArrayExactSpec)

/-- ITS FALSE NEIGHBOUR: 'it returns false'. Refute it at one input. -/
def fnReverseArrayExactWrong : ChangeSpec := { name := "fnReverseArrayExact", fn := fun _ => fun
  | [d] => { results := [.lit (.bool false)], args := [d] }
  | _ => none }
def FnReverseArrayExactWrongFalsely : Prop := fnReverseArrayExactRow.holds Uahg.pinned (OpenSpec.ofChange fnReverseArrayExactWrong)

end Rows
end Go.Proofs.Youahw
