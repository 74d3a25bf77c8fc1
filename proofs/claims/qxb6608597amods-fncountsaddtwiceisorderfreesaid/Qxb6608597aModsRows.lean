/-
  No cell of these rows narrows 'for every input' (looked for: loops, veiled, ifaces, maps, wideKeys, modest, calm, conditions, laid).
  DERIVED. THE GIVEN ROWS OF THIS SEAT. 6 by the template 'for every input the law returns true; each argument reads behind the call as it read before'; 0 by the template 'total and deterministic' (their statements: Qxb6608597aModsTotals.lean).
  GIVEN WITH THE SEED: the statements are not yours to turn. If you find one false, say at which input.
  Laid BY PROGRAM, IN A SANDBOX (cutbox-rows.mjs): the forced cells as the released guide's own fill.sh prints them over the translation 0299426c8d639639… (all of the seat's roots in one cut). By AI agents, Wed Nov 11 2026. No macro, syntax, notation, axiom, sorry.
-/
import Derived.Test.Qxb6608597aModsChecked
import GoSem.Claim
import GoSem.ClaimJoined
import GoSem.ClaimMapViews
import Derived.JoinedTies
import Derived.KernelRfl
namespace Go.Proofs.Qxb6608597aMods
/- THE CELL 'sum', in the pinned program and in every row, IS THE sha256 OF THE DUMP (.gsa) THAT Qxb6608597aModsProg.lean LOADS. Nothing in Lean hashes anything: it is a label: what it is worth is what the hold of that sum in a sandbox is worth. -/
noncomputable def Trym.pinned : Pinned := { name := "qxb6608597amods", sum := "0299426c8d639639bbb5c9b0629798f8c62da7e06c02c059dee56aa29bcafce5", checked := Trym.checked }
namespace Rows
def none {H : Type} : Left H := { results := [], args := [] }

/-- 'zzlaws_internal_store_b1.FnSwapAdjacentPassRotatesLeft': WHATEVER THE INPUT: true; the input reads as it did. -/
def fnSwapAdjacentPassRotatesLeftSpec : ChangeSpec := { name := "fnSwapAdjacentPassRotatesLeft", fn := fun _ => fun
  | [d1, d2, d3] => { results := [.lit (.bool true)], args := [d1, d2, d3] }
  | _ => none }
def fnSwapAdjacentPassRotatesLeftRow : OpenClaim := { program := "qxb6608597amods", sum := "0299426c8d639639bbb5c9b0629798f8c62da7e06c02c059dee56aa29bcafce5", func := "example.com/timestone/timestone/zzlaws_internal_store_b1.FnSwapAdjacentPassRotatesLeft", spec := "fnSwapAdjacentPassRotatesLeft", make := .lifted ["publicsums"], apart := false }
def FnSwapAdjacentPassRotatesLeftSaid : Prop := fnSwapAdjacentPassRotatesLeftRow.holds Trym.pinned (OpenSpec.ofChange fnSwapAdjacentPassRotatesLeftSpec)

/-- ITS FALSE NEIGHBOUR: 'it returns false'. Refute it at one input. -/
def fnSwapAdjacentPassRotatesLeftWrong : ChangeSpec := { name := "fnSwapAdjacentPassRotatesLeft", fn := fun _ => fun
  | [d1, d2, d3] => { results := [.lit (.bool false)], args := [d1, d2, d3] }
  | _ => none }
def FnSwapAdjacentPassRotatesLeftWrongFalsely : Prop := fnSwapAdjacentPassRotatesLeftRow.holds Trym.pinned (OpenSpec.ofChange fnSwapAdjacentPassRotatesLeftWrong)

/-- 'zzlaws_internal_store_b1.FnCountsAddTalliesEachNumber': WHATEVER THE INPUT: true; the input reads as it did. -/
def fnCountsAddTalliesEachNumberSpec : ChangeSpec := { name := "fnCountsAddTalliesEachNumber", fn := fun _ => fun
  | [d1, d2] => { results := [.lit (.bool true)], args := [d1, d2] }
  | _ => none }
def fnCountsAddTalliesEachNumberRow : OpenClaim := { program := "qxb6608597amods", sum := "0299426c8d639639bbb5c9b0629798f8c62da7e06c02c059dee56aa29bcafce5", func := "example.com/timestone/timestone/zzlaws_internal_store_b1.FnCountsAddTalliesEachNumber", spec := "fnCountsAddTalliesEachNumber", make := .lifted ["publicsums"], apart := false }
def FnCountsAddTalliesEachNumberSaid : Prop := fnCountsAddTalliesEachNumberRow.holds Trym.pinned (OpenSpec.ofChange fnCountsAddTalliesEachNumberSpec)

/-- ITS FALSE NEIGHBOUR: 'it returns false'. Refute it at one input. -/
def fnCountsAddTalliesEachNumberWrong : ChangeSpec := { name := "fnCountsAddTalliesEachNumber", fn := fun _ => fun
  | [d1, d2] => { results := [.lit (.bool false)], args := [d1, d2] }
  | _ => none }
def FnCountsAddTalliesEachNumberWrongFalsely : Prop := fnCountsAddTalliesEachNumberRow.holds Trym.pinned (OpenSpec.ofChange fnCountsAddTalliesEachNumberWrong)

/-- 'zzlaws_internal_store_b1.FnCountsAddTwiceIsOrderFree': WHATEVER THE INPUT: true; the input reads as it did. -/
def fnCountsAddTwiceIsOrderFreeSpec : ChangeSpec := { name := "fnCountsAddTwiceIsOrderFree", fn := fun _ => fun
  | [d1, d2, d3, d4] => { results := [.lit (.bool true)], args := [d1, d2, d3, d4] }
  | _ => none }
def fnCountsAddTwiceIsOrderFreeRow : OpenClaim := { program := "qxb6608597amods", sum := "0299426c8d639639bbb5c9b0629798f8c62da7e06c02c059dee56aa29bcafce5", func := "example.com/timestone/timestone/zzlaws_internal_store_b1.FnCountsAddTwiceIsOrderFree", spec := "fnCountsAddTwiceIsOrderFree", make := .lifted ["publicsums"], apart := false }
def FnCountsAddTwiceIsOrderFreeSaid : Prop := fnCountsAddTwiceIsOrderFreeRow.holds Trym.pinned (OpenSpec.ofChange fnCountsAddTwiceIsOrderFreeSpec)

/-- ITS FALSE NEIGHBOUR: 'it returns false'. Refute it at one input. -/
def fnCountsAddTwiceIsOrderFreeWrong : ChangeSpec := { name := "fnCountsAddTwiceIsOrderFree", fn := fun _ => fun
  | [d1, d2, d3, d4] => { results := [.lit (.bool false)], args := [d1, d2, d3, d4] }
  | _ => none }
def FnCountsAddTwiceIsOrderFreeWrongFalsely : Prop := fnCountsAddTwiceIsOrderFreeRow.holds Trym.pinned (OpenSpec.ofChange fnCountsAddTwiceIsOrderFreeWrong)

/-- 'zzlaws_internal_store_b1.FnPastIsTotalAntisymmetricAndStartFree': WHATEVER THE INPUT: true; the input reads as it did. -/
def fnPastIsTotalAntisymmetricAndStartFreeSpec : ChangeSpec := { name := "fnPastIsTotalAntisymmetricAndStartFree", fn := fun _ => fun
  | [d1, d2, d3] => { results := [.lit (.bool true)], args := [d1, d2, d3] }
  | _ => none }
def fnPastIsTotalAntisymmetricAndStartFreeRow : OpenClaim := { program := "qxb6608597amods", sum := "0299426c8d639639bbb5c9b0629798f8c62da7e06c02c059dee56aa29bcafce5", func := "example.com/timestone/timestone/zzlaws_internal_store_b1.FnPastIsTotalAntisymmetricAndStartFree", spec := "fnPastIsTotalAntisymmetricAndStartFree", inPlace := ["internal/bytealg.Compare"], make := .lifted ["publicsums"], apart := false }
def FnPastIsTotalAntisymmetricAndStartFreeSaid : Prop := fnPastIsTotalAntisymmetricAndStartFreeRow.holds Trym.pinned (OpenSpec.ofChange fnPastIsTotalAntisymmetricAndStartFreeSpec)

/-- ITS FALSE NEIGHBOUR: 'it returns false'. Refute it at one input. -/
def fnPastIsTotalAntisymmetricAndStartFreeWrong : ChangeSpec := { name := "fnPastIsTotalAntisymmetricAndStartFree", fn := fun _ => fun
  | [d1, d2, d3] => { results := [.lit (.bool false)], args := [d1, d2, d3] }
  | _ => none }
def FnPastIsTotalAntisymmetricAndStartFreeWrongFalsely : Prop := fnPastIsTotalAntisymmetricAndStartFreeRow.holds Trym.pinned (OpenSpec.ofChange fnPastIsTotalAntisymmetricAndStartFreeWrong)

/-- 'zzlaws_internal_store_b1.FnPastIgnoresACommonPrefix': WHATEVER THE INPUT: true; the input reads as it did. -/
def fnPastIgnoresACommonPrefixSpec : ChangeSpec := { name := "fnPastIgnoresACommonPrefix", fn := fun _ => fun
  | [d1, d2, d3] => { results := [.lit (.bool true)], args := [d1, d2, d3] }
  | _ => none }
def fnPastIgnoresACommonPrefixRow : OpenClaim := { program := "qxb6608597amods", sum := "0299426c8d639639bbb5c9b0629798f8c62da7e06c02c059dee56aa29bcafce5", func := "example.com/timestone/timestone/zzlaws_internal_store_b1.FnPastIgnoresACommonPrefix", spec := "fnPastIgnoresACommonPrefix", inPlace := ["internal/bytealg.Compare"], make := .lifted ["publicsums"], apart := false }
def FnPastIgnoresACommonPrefixSaid : Prop := fnPastIgnoresACommonPrefixRow.holds Trym.pinned (OpenSpec.ofChange fnPastIgnoresACommonPrefixSpec)

/-- ITS FALSE NEIGHBOUR: 'it returns false'. Refute it at one input. -/
def fnPastIgnoresACommonPrefixWrong : ChangeSpec := { name := "fnPastIgnoresACommonPrefix", fn := fun _ => fun
  | [d1, d2, d3] => { results := [.lit (.bool false)], args := [d1, d2, d3] }
  | _ => none }
def FnPastIgnoresACommonPrefixWrongFalsely : Prop := fnPastIgnoresACommonPrefixRow.holds Trym.pinned (OpenSpec.ofChange fnPastIgnoresACommonPrefixWrong)

/-- 'zzlaws_internal_store_b1.FnHoldsIsTheUnionOfItsRanges': WHATEVER THE INPUT: true; the input reads as it did. -/
def fnHoldsIsTheUnionOfItsRangesSpec : ChangeSpec := { name := "fnHoldsIsTheUnionOfItsRanges", fn := fun _ => fun
  | [d1, d2, d3] => { results := [.lit (.bool true)], args := [d1, d2, d3] }
  | _ => none }
def fnHoldsIsTheUnionOfItsRangesRow : OpenClaim := { program := "qxb6608597amods", sum := "0299426c8d639639bbb5c9b0629798f8c62da7e06c02c059dee56aa29bcafce5", func := "example.com/timestone/timestone/zzlaws_internal_store_b1.FnHoldsIsTheUnionOfItsRanges", spec := "fnHoldsIsTheUnionOfItsRanges", inPlace := ["internal/bytealg.Compare"], unfollowed := true, recurses := true, make := .lifted ["publicsums"], apart := false }
def FnHoldsIsTheUnionOfItsRangesSaid : Prop := fnHoldsIsTheUnionOfItsRangesRow.holds Trym.pinned (OpenSpec.ofChange fnHoldsIsTheUnionOfItsRangesSpec)

/-- ITS FALSE NEIGHBOUR: 'it returns false'. Refute it at one input. -/
def fnHoldsIsTheUnionOfItsRangesWrong : ChangeSpec := { name := "fnHoldsIsTheUnionOfItsRanges", fn := fun _ => fun
  | [d1, d2, d3] => { results := [.lit (.bool false)], args := [d1, d2, d3] }
  | _ => none }
def FnHoldsIsTheUnionOfItsRangesWrongFalsely : Prop := fnHoldsIsTheUnionOfItsRangesRow.holds Trym.pinned (OpenSpec.ofChange fnHoldsIsTheUnionOfItsRangesWrong)

end Rows
end Go.Proofs.Qxb6608597aMods
