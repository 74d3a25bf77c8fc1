/-
  No cell of these rows narrows 'for every input' (looked for: loops, veiled, ifaces, maps, wideKeys, modest, calm, conditions, laid).
  DERIVED. THE GIVEN ROWS OF THIS SEAT. 6 by the template 'for every input the law returns true; each argument reads behind the call as it read before'; 0 by the template 'total and deterministic' (their statements: Qxb6608970aModsTotals.lean).
  GIVEN WITH THE SEED: the statements are not yours to turn. If you find one false, say at which input.
  Laid BY PROGRAM, IN A SANDBOX (cutbox-rows.mjs): the forced cells as the released guide's own fill.sh prints them over the translation 7dcadd67ca92acdb… (all of the seat's roots in one cut). By AI agents, Wed Nov 11 2026. No macro, syntax, notation, axiom, sorry.
-/
import Derived.Test.Qxb6608970aModsChecked
import GoSem.Claim
import GoSem.ClaimJoined
import GoSem.ClaimMapViews
import Derived.JoinedTies
import Derived.KernelRfl
namespace Go.Proofs.Qxb6608970aMods
/- THE CELL 'sum', in the pinned program and in every row, IS THE sha256 OF THE DUMP (.gsa) THAT Qxb6608970aModsProg.lean LOADS. Nothing in Lean hashes anything: it is a label: what it is worth is what the hold of that sum in a sandbox is worth. -/
noncomputable def Trym.pinned : Pinned := { name := "qxb6608970amods", sum := "7dcadd67ca92acdb451643b743d85d063a72547d8cdc197651f6e2a931e07289", checked := Trym.checked }
namespace Rows
def none {H : Type} : Left H := { results := [], args := [] }

/-- 'zzlaws_internal_store_b1.FnSeqCompareAntisymmetricZeroExactlyAtEquality': WHATEVER THE INPUT: true; the input reads as it did. -/
def fnSeqCompareAntisymmetricZeroExactlyAtEqualitySpec : ChangeSpec := { name := "fnSeqCompareAntisymmetricZeroExactlyAtEquality", fn := fun _ => fun
  | [d1, d2, d3, d4] => { results := [.lit (.bool true)], args := [d1, d2, d3, d4] }
  | _ => none }
def fnSeqCompareAntisymmetricZeroExactlyAtEqualityRow : OpenClaim := { program := "qxb6608970amods", sum := "7dcadd67ca92acdb451643b743d85d063a72547d8cdc197651f6e2a931e07289", func := "example.com/bidu/bidu/zzlaws_internal_store_b1.FnSeqCompareAntisymmetricZeroExactlyAtEquality", spec := "fnSeqCompareAntisymmetricZeroExactlyAtEquality", make := .lifted ["publicsums"], apart := false }
def FnSeqCompareAntisymmetricZeroExactlyAtEqualitySaid : Prop := fnSeqCompareAntisymmetricZeroExactlyAtEqualityRow.holds Trym.pinned (OpenSpec.ofChange fnSeqCompareAntisymmetricZeroExactlyAtEqualitySpec)

/-- ITS FALSE NEIGHBOUR: 'it returns false'. Refute it at one input. -/
def fnSeqCompareAntisymmetricZeroExactlyAtEqualityWrong : ChangeSpec := { name := "fnSeqCompareAntisymmetricZeroExactlyAtEquality", fn := fun _ => fun
  | [d1, d2, d3, d4] => { results := [.lit (.bool false)], args := [d1, d2, d3, d4] }
  | _ => none }
def FnSeqCompareAntisymmetricZeroExactlyAtEqualityWrongFalsely : Prop := fnSeqCompareAntisymmetricZeroExactlyAtEqualityRow.holds Trym.pinned (OpenSpec.ofChange fnSeqCompareAntisymmetricZeroExactlyAtEqualityWrong)

/-- 'zzlaws_internal_store_b1.FnSeqCompareAtFirstThenDocAsAt': WHATEVER THE INPUT: true; the input reads as it did. -/
def fnSeqCompareAtFirstThenDocAsAtSpec : ChangeSpec := { name := "fnSeqCompareAtFirstThenDocAsAt", fn := fun _ => fun
  | [d1, d2, d3, d4] => { results := [.lit (.bool true)], args := [d1, d2, d3, d4] }
  | _ => none }
def fnSeqCompareAtFirstThenDocAsAtRow : OpenClaim := { program := "qxb6608970amods", sum := "7dcadd67ca92acdb451643b743d85d063a72547d8cdc197651f6e2a931e07289", func := "example.com/bidu/bidu/zzlaws_internal_store_b1.FnSeqCompareAtFirstThenDocAsAt", spec := "fnSeqCompareAtFirstThenDocAsAt", make := .lifted ["publicsums"], apart := false }
def FnSeqCompareAtFirstThenDocAsAtSaid : Prop := fnSeqCompareAtFirstThenDocAsAtRow.holds Trym.pinned (OpenSpec.ofChange fnSeqCompareAtFirstThenDocAsAtSpec)

/-- ITS FALSE NEIGHBOUR: 'it returns false'. Refute it at one input. -/
def fnSeqCompareAtFirstThenDocAsAtWrong : ChangeSpec := { name := "fnSeqCompareAtFirstThenDocAsAt", fn := fun _ => fun
  | [d1, d2, d3, d4] => { results := [.lit (.bool false)], args := [d1, d2, d3, d4] }
  | _ => none }
def FnSeqCompareAtFirstThenDocAsAtWrongFalsely : Prop := fnSeqCompareAtFirstThenDocAsAtRow.holds Trym.pinned (OpenSpec.ofChange fnSeqCompareAtFirstThenDocAsAtWrong)

/-- 'zzlaws_internal_store_b1.FnSawRemovalPutsReachOnceBeforeItsSince': WHATEVER THE INPUT: true; the input reads as it did. -/
def fnSawRemovalPutsReachOnceBeforeItsSinceSpec : ChangeSpec := { name := "fnSawRemovalPutsReachOnceBeforeItsSince", fn := fun _ => fun
  | [d] => { results := [.lit (.bool true)], args := [d] }
  | _ => none }
def fnSawRemovalPutsReachOnceBeforeItsSinceRow : OpenClaim := { program := "qxb6608970amods", sum := "7dcadd67ca92acdb451643b743d85d063a72547d8cdc197651f6e2a931e07289", func := "example.com/bidu/bidu/zzlaws_internal_store_b1.FnSawRemovalPutsReachOnceBeforeItsSince", spec := "fnSawRemovalPutsReachOnceBeforeItsSince", make := .lifted ["publicsums"], apart := false }
def FnSawRemovalPutsReachOnceBeforeItsSinceSaid : Prop := fnSawRemovalPutsReachOnceBeforeItsSinceRow.holds Trym.pinned (OpenSpec.ofChange fnSawRemovalPutsReachOnceBeforeItsSinceSpec)

/-- ITS FALSE NEIGHBOUR: 'it returns false'. Refute it at one input. -/
def fnSawRemovalPutsReachOnceBeforeItsSinceWrong : ChangeSpec := { name := "fnSawRemovalPutsReachOnceBeforeItsSince", fn := fun _ => fun
  | [d] => { results := [.lit (.bool false)], args := [d] }
  | _ => none }
def FnSawRemovalPutsReachOnceBeforeItsSinceWrongFalsely : Prop := fnSawRemovalPutsReachOnceBeforeItsSinceRow.holds Trym.pinned (OpenSpec.ofChange fnSawRemovalPutsReachOnceBeforeItsSinceWrong)

/-- 'zzlaws_internal_store_b1.FnSawRemovalJoinedReachIsCutInBehindItsHead': WHATEVER THE INPUT: true; the input reads as it did. -/
def fnSawRemovalJoinedReachIsCutInBehindItsHeadSpec : ChangeSpec := { name := "fnSawRemovalJoinedReachIsCutInBehindItsHead", fn := fun _ => fun
  | [d1, d2] => { results := [.lit (.bool true)], args := [d1, d2] }
  | _ => none }
def fnSawRemovalJoinedReachIsCutInBehindItsHeadRow : OpenClaim := { program := "qxb6608970amods", sum := "7dcadd67ca92acdb451643b743d85d063a72547d8cdc197651f6e2a931e07289", func := "example.com/bidu/bidu/zzlaws_internal_store_b1.FnSawRemovalJoinedReachIsCutInBehindItsHead", spec := "fnSawRemovalJoinedReachIsCutInBehindItsHead", make := .lifted ["publicsums"], apart := false }
def FnSawRemovalJoinedReachIsCutInBehindItsHeadSaid : Prop := fnSawRemovalJoinedReachIsCutInBehindItsHeadRow.holds Trym.pinned (OpenSpec.ofChange fnSawRemovalJoinedReachIsCutInBehindItsHeadSpec)

/-- ITS FALSE NEIGHBOUR: 'it returns false'. Refute it at one input. -/
def fnSawRemovalJoinedReachIsCutInBehindItsHeadWrong : ChangeSpec := { name := "fnSawRemovalJoinedReachIsCutInBehindItsHead", fn := fun _ => fun
  | [d1, d2] => { results := [.lit (.bool false)], args := [d1, d2] }
  | _ => none }
def FnSawRemovalJoinedReachIsCutInBehindItsHeadWrongFalsely : Prop := fnSawRemovalJoinedReachIsCutInBehindItsHeadRow.holds Trym.pinned (OpenSpec.ofChange fnSawRemovalJoinedReachIsCutInBehindItsHeadWrong)

/-- 'zzlaws_internal_store_b1.FnWatchIndexAddHoldsExactlyTheAddedPairs': WHATEVER THE INPUT: true; the input reads as it did. -/
def fnWatchIndexAddHoldsExactlyTheAddedPairsSpec : ChangeSpec := { name := "fnWatchIndexAddHoldsExactlyTheAddedPairs", fn := fun _ => fun
  | [d1, d2, d3] => { results := [.lit (.bool true)], args := [d1, d2, d3] }
  | _ => none }
def fnWatchIndexAddHoldsExactlyTheAddedPairsRow : OpenClaim := { program := "qxb6608970amods", sum := "7dcadd67ca92acdb451643b743d85d063a72547d8cdc197651f6e2a931e07289", func := "example.com/bidu/bidu/zzlaws_internal_store_b1.FnWatchIndexAddHoldsExactlyTheAddedPairs", spec := "fnWatchIndexAddHoldsExactlyTheAddedPairs", make := .lifted ["publicsums"], apart := false }
def FnWatchIndexAddHoldsExactlyTheAddedPairsSaid : Prop := fnWatchIndexAddHoldsExactlyTheAddedPairsRow.holds Trym.pinned (OpenSpec.ofChange fnWatchIndexAddHoldsExactlyTheAddedPairsSpec)

/-- ITS FALSE NEIGHBOUR: 'it returns false'. Refute it at one input. -/
def fnWatchIndexAddHoldsExactlyTheAddedPairsWrong : ChangeSpec := { name := "fnWatchIndexAddHoldsExactlyTheAddedPairs", fn := fun _ => fun
  | [d1, d2, d3] => { results := [.lit (.bool false)], args := [d1, d2, d3] }
  | _ => none }
def FnWatchIndexAddHoldsExactlyTheAddedPairsWrongFalsely : Prop := fnWatchIndexAddHoldsExactlyTheAddedPairsRow.holds Trym.pinned (OpenSpec.ofChange fnWatchIndexAddHoldsExactlyTheAddedPairsWrong)

/-- 'zzlaws_internal_store_b1.FnWatchesDropLeavesExactlyTheOthers': WHATEVER THE INPUT: true; the input reads as it did. -/
def fnWatchesDropLeavesExactlyTheOthersSpec : ChangeSpec := { name := "fnWatchesDropLeavesExactlyTheOthers", fn := fun _ => fun
  | [d1, d2, d3, d4] => { results := [.lit (.bool true)], args := [d1, d2, d3, d4] }
  | _ => none }
def fnWatchesDropLeavesExactlyTheOthersRow : OpenClaim := { program := "qxb6608970amods", sum := "7dcadd67ca92acdb451643b743d85d063a72547d8cdc197651f6e2a931e07289", func := "example.com/bidu/bidu/zzlaws_internal_store_b1.FnWatchesDropLeavesExactlyTheOthers", spec := "fnWatchesDropLeavesExactlyTheOthers", make := .lifted ["publicsums"], apart := false }
def FnWatchesDropLeavesExactlyTheOthersSaid : Prop := fnWatchesDropLeavesExactlyTheOthersRow.holds Trym.pinned (OpenSpec.ofChange fnWatchesDropLeavesExactlyTheOthersSpec)

/-- ITS FALSE NEIGHBOUR: 'it returns false'. Refute it at one input. -/
def fnWatchesDropLeavesExactlyTheOthersWrong : ChangeSpec := { name := "fnWatchesDropLeavesExactlyTheOthers", fn := fun _ => fun
  | [d1, d2, d3, d4] => { results := [.lit (.bool false)], args := [d1, d2, d3, d4] }
  | _ => none }
def FnWatchesDropLeavesExactlyTheOthersWrongFalsely : Prop := fnWatchesDropLeavesExactlyTheOthersRow.holds Trym.pinned (OpenSpec.ofChange fnWatchesDropLeavesExactlyTheOthersWrong)

end Rows
end Go.Proofs.Qxb6608970aMods
