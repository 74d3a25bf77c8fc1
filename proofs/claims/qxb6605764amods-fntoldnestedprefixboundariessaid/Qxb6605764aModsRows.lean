/-
  No cell of these rows narrows 'for every input' (looked for: loops, veiled, ifaces, maps, wideKeys, modest, calm, conditions, laid).
  DERIVED. THE GIVEN ROWS OF THIS SEAT. 2 by the template 'for every input the law returns true; each argument reads behind the call as it read before'; 0 by the template 'total and deterministic' (their statements: Qxb6605764aModsTotals.lean).
  GIVEN WITH THE SEED: the statements are not yours to turn. If you find one false, say at which input.
  Laid BY PROGRAM, IN A SANDBOX (cutbox-rows.mjs): the forced cells as the released guide's own fill.sh prints them over the translation 587435969028f355… (all of the seat's roots in one cut). By AI agents, Wed Nov 11 2026. No macro, syntax, notation, axiom, sorry.
-/
import Derived.Test.Qxb6605764aModsChecked
import GoSem.Claim
import GoSem.ClaimJoined
import GoSem.ClaimMapViews
import Derived.JoinedTies
import Derived.KernelRfl
namespace Go.Proofs.Qxb6605764aMods
/- THE CELL 'sum', in the pinned program and in every row, IS THE sha256 OF THE DUMP (.gsa) THAT Qxb6605764aModsProg.lean LOADS. Nothing in Lean hashes anything: it is a label: what it is worth is what the hold of that sum in a sandbox is worth. -/
noncomputable def Trym.pinned : Pinned := { name := "qxb6605764amods", sum := "587435969028f3559497eaa35a44b6708fd987950f55a1ff6611caa9a9b428b3", checked := Trym.checked }
namespace Rows
def none {H : Type} : Left H := { results := [], args := [] }

/-- 'zzlaws_internal_message_b1.FnToldDelimiterLineOfOneBoundary': WHATEVER THE INPUT: true; the input reads as it did. -/
def fnToldDelimiterLineOfOneBoundarySpec : ChangeSpec := { name := "fnToldDelimiterLineOfOneBoundary", fn := fun _ => fun
  | [d1, d2, d3, d4] => { results := [.lit (.bool true)], args := [d1, d2, d3, d4] }
  | _ => none }
def fnToldDelimiterLineOfOneBoundaryRow : OpenClaim := { program := "qxb6605764amods", sum := "587435969028f3559497eaa35a44b6708fd987950f55a1ff6611caa9a9b428b3", func := "example.com/greylist/greylist/zzlaws_internal_message_b1.FnToldDelimiterLineOfOneBoundary", spec := "fnToldDelimiterLineOfOneBoundary", make := .lifted ["publicsums"], apart := false }
def FnToldDelimiterLineOfOneBoundarySaid : Prop := fnToldDelimiterLineOfOneBoundaryRow.holds Trym.pinned (OpenSpec.ofChange fnToldDelimiterLineOfOneBoundarySpec)

/-- ITS FALSE NEIGHBOUR: 'it returns false'. Refute it at one input. -/
def fnToldDelimiterLineOfOneBoundaryWrong : ChangeSpec := { name := "fnToldDelimiterLineOfOneBoundary", fn := fun _ => fun
  | [d1, d2, d3, d4] => { results := [.lit (.bool false)], args := [d1, d2, d3, d4] }
  | _ => none }
def FnToldDelimiterLineOfOneBoundaryWrongFalsely : Prop := fnToldDelimiterLineOfOneBoundaryRow.holds Trym.pinned (OpenSpec.ofChange fnToldDelimiterLineOfOneBoundaryWrong)

/-- 'zzlaws_internal_message_b1.FnToldNestedPrefixBoundaries': WHATEVER THE INPUT: true; the input reads as it did. -/
def fnToldNestedPrefixBoundariesSpec : ChangeSpec := { name := "fnToldNestedPrefixBoundaries", fn := fun _ => fun
  | [d1, d2, d3, d4, d5, d6] => { results := [.lit (.bool true)], args := [d1, d2, d3, d4, d5, d6] }
  | _ => none }
def fnToldNestedPrefixBoundariesRow : OpenClaim := { program := "qxb6605764amods", sum := "587435969028f3559497eaa35a44b6708fd987950f55a1ff6611caa9a9b428b3", func := "example.com/greylist/greylist/zzlaws_internal_message_b1.FnToldNestedPrefixBoundaries", spec := "fnToldNestedPrefixBoundaries", make := .lifted ["publicsums"], apart := false }
def FnToldNestedPrefixBoundariesSaid : Prop := fnToldNestedPrefixBoundariesRow.holds Trym.pinned (OpenSpec.ofChange fnToldNestedPrefixBoundariesSpec)

/-- ITS FALSE NEIGHBOUR: 'it returns false'. Refute it at one input. -/
def fnToldNestedPrefixBoundariesWrong : ChangeSpec := { name := "fnToldNestedPrefixBoundaries", fn := fun _ => fun
  | [d1, d2, d3, d4, d5, d6] => { results := [.lit (.bool false)], args := [d1, d2, d3, d4, d5, d6] }
  | _ => none }
def FnToldNestedPrefixBoundariesWrongFalsely : Prop := fnToldNestedPrefixBoundariesRow.holds Trym.pinned (OpenSpec.ofChange fnToldNestedPrefixBoundariesWrong)

end Rows
end Go.Proofs.Qxb6605764aMods
