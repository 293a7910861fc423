/-
  strings.Join BY ITS CONTRACT OF THE SHELF, at this program, in plain words (the table of numbers and the facts are the kit tool lay-plain's for this dump).
-/
import Derived.Shelf.Strings.OnBuilder
import Derived.Test.YouahwProg
namespace Go.Proofs
open Go.Shelf
def Uahg.lays156_ren : Go.Shelf.Ren := ⟨fun | 156 => 31 | 165 => 33 | 166 => 34 | 169 => 35 | 240 => 38 | 241 => 39 | 276 => 41 | 277 => 42 | n => n, fun | 31 => 27 | 9 => 9 | 3 => 3 | 4 => 4 | 0 => 0 | 20 => 20 | 72 => 62 | 76 => 64 | 70 => 59 | 37 => 60 | 75 => 40 | 127 => 69 | 164 => 73 | 5 => 5 | 80 => 66 | n => n, fun | n => n⟩
theorem Uahg.lays156 : Go.Proofs.Lays.n156 Uahg.prog Uahg.lays156_ren := {
  mixed := by kernel_rfl
  f156 := Uahg.func31.trans (congrArg some (by kernel_rfl))
  f165 := Uahg.func33.trans (congrArg some (by kernel_rfl))
  f166 := Uahg.func34.trans (congrArg some (by kernel_rfl))
  f169 := Uahg.func35.trans (congrArg some (by kernel_rfl))
  f240 := Uahg.func38.trans (congrArg some (by kernel_rfl))
  f241 := Uahg.func39.trans (congrArg some (by kernel_rfl))
  f276 := Uahg.func41.trans (congrArg some (by kernel_rfl))
  f277 := Uahg.func42.trans (congrArg some (by kernel_rfl))
  t0 := Uahg.underlying0
  a0 := Uahg.isAgg0
  z0 := Uahg.sizeOf0
  v0 := Uahg.zeroValue0
  t3 := Uahg.underlying3
  a3 := Uahg.isAgg3
  z3 := Uahg.sizeOf3
  v3 := Uahg.zeroValue3
  t4 := Uahg.underlying4
  a4 := Uahg.isAgg4
  z4 := Uahg.sizeOf4
  v4 := Uahg.zeroValue4
  t9 := Uahg.underlying9
  a9 := Uahg.isAgg9
  z9 := Uahg.sizeOf9
  v9 := Uahg.zeroValue9
  t20 := Uahg.underlying20
  a20 := Uahg.isAgg20
  z20 := Uahg.sizeOf20
  v20 := Uahg.zeroValue20
  t31 := Uahg.underlying27
  a31 := Uahg.isAgg27
  z31 := Uahg.sizeOf27
  v31 := Uahg.zeroValue27
  t37 := Uahg.underlying60
  a37 := Uahg.isAgg60
  z37 := Uahg.sizeOf60
  v37 := Uahg.zeroValue60
  t70 := Uahg.underlying59
  a70 := Uahg.isAgg59
  z70 := Uahg.sizeOf59
  v70 := Uahg.zeroValue59
  t72 := Uahg.underlying62
  a72 := Uahg.isAgg62
  z72 := Uahg.sizeOf62
  v72 := Uahg.zeroValue62
  t75 := Uahg.underlying40
  a75 := Uahg.isAgg40
  z75 := Uahg.sizeOf40
  v75 := Uahg.zeroValue40
  t76 := Uahg.underlying64
  a76 := Uahg.isAgg64
  z76 := Uahg.sizeOf64
  v76 := Uahg.zeroValue64
  t127 := Uahg.underlying69
  a127 := Uahg.isAgg69
  z127 := Uahg.sizeOf69
  v127 := Uahg.zeroValue69
  t164 := Uahg.underlying73
  a164 := Uahg.isAgg73
  z164 := Uahg.sizeOf73
  v164 := Uahg.zeroValue73 }
theorem Uahg.Builder_Extra_156 : Builder.Extra Uahg.prog Uahg.lays156_ren := {
  sizeBuilder := by kernel_rfl
  liesBuilder := by kernel_rfl
  t5 := Uahg.underlying5
  a5 := Uahg.isAgg5
  z5 := Uahg.sizeOf5
  v5 := Uahg.zeroValue5
  infoByte := by kernel_rfl
  cellsByte := by kernel_rfl
  sizeByte := by kernel_rfl
  neB5 := by decide }
open Go.RowKit in
theorem Uahg.strings_Join_none (a : Option Addr) (c : Nat) (sep : ByteArray) (w : World) :
    Calls Uahg.prog 31 #[.slice a 0 c, .string sep] w fun e w' => e = .returned (.string ⟨#[]⟩) ∧ w' = w := Any.strings_Join_none Uahg.lays156 Uahg.Builder_Extra_156 a c sep w
open Go.RowKit in
theorem Uahg.strings_Join (bk o c : Nat) (xs : List ByteArray) (sep : ByteArray) (w : World) (hcells : ∀ (j : Nat) x, xs[j]? = some x → w.cell? ⟨bk, o + j, none⟩ = some (.string x)) (hbk : bk < w.heap.size) (hN : xs.length ≤ 140737488355328) (hcap : xs.length ≤ c) (hlen : (Lib.join (xs.map (·.data.toList)) sep.data.toList).length ≤ 140737488355328) :
    Calls Uahg.prog 31 #[.slice (some ⟨bk, o, none⟩) xs.length c, .string sep] w fun e w' => e = .returned (.string ⟨(Lib.join (xs.map (·.data.toList)) sep.data.toList).toArray⟩) ∧ Below w.heap.size w w' := Any.strings_Join Uahg.lays156 Uahg.Builder_Extra_156 bk o c xs sep w hcells hbk hN hcap hlen
end Go.Proofs
