/-
  No cell of these rows narrows 'for every input' (looked for: loops, veiled, ifaces, maps, wideKeys, modest, calm, conditions, laid).
  DERIVED. THE GIVEN ROWS OF THIS SEAT. 2 by the template 'for every input the law returns true; each argument reads behind the call as it read before'; 0 by the template 'total and deterministic' (their statements: Qxb6608806aModsTotals.lean).
  GIVEN WITH THE SEED: the statements are not yours to turn. If you find one false, say at which input.
  Laid BY PROGRAM, IN A SANDBOX (cutbox-rows.mjs): the forced cells as the released guide's own fill.sh prints them over the translation e0fa52fa7b3087b5… (all of the seat's roots in one cut). By AI agents, Wed Nov 11 2026. No macro, syntax, notation, axiom, sorry.
-/
import Derived.Test.Qxb6608806aModsChecked
import GoSem.Claim
import GoSem.ClaimJoined
import GoSem.ClaimMapViews
import Derived.JoinedTies
import Derived.KernelRfl
namespace Go.Proofs.Qxb6608806aMods
/- THE CELL 'sum', in the pinned program and in every row, IS THE sha256 OF THE DUMP (.gsa) THAT Qxb6608806aModsProg.lean LOADS. Nothing in Lean hashes anything: it is a label: what it is worth is what the hold of that sum in a sandbox is worth. -/
noncomputable def Trym.pinned : Pinned := { name := "qxb6608806amods", sum := "e0fa52fa7b3087b54558485f809b4d13c5d9ade77e696e26b59f75983659faa5", checked := Trym.checked }
namespace Rows
def none {H : Type} : Left H := { results := [], args := [] }

/-- 'zzlaws_root_b1.FnCachedByNameWalkFindsEachInTurn': WHATEVER THE INPUT: true; the input reads as it did. -/
def fnCachedByNameWalkFindsEachInTurnSpec : ChangeSpec := { name := "fnCachedByNameWalkFindsEachInTurn", fn := fun _ => fun
  | [d1, d2] => { results := [.lit (.bool true)], args := [d1, d2] }
  | _ => none }
def fnCachedByNameWalkFindsEachInTurnRow : OpenClaim := { program := "qxb6608806amods", sum := "e0fa52fa7b3087b54558485f809b4d13c5d9ade77e696e26b59f75983659faa5", func := "example.com/cairnstore/cairnstore/zzlaws_root_b1.FnCachedByNameWalkFindsEachInTurn", spec := "fnCachedByNameWalkFindsEachInTurn", make := .lifted ["publicsums"], apart := false }
def FnCachedByNameWalkFindsEachInTurnSaid : Prop := fnCachedByNameWalkFindsEachInTurnRow.holds Trym.pinned (OpenSpec.ofChange fnCachedByNameWalkFindsEachInTurnSpec)

/-- ITS FALSE NEIGHBOUR: 'it returns false'. Refute it at one input. -/
def fnCachedByNameWalkFindsEachInTurnWrong : ChangeSpec := { name := "fnCachedByNameWalkFindsEachInTurn", fn := fun _ => fun
  | [d1, d2] => { results := [.lit (.bool false)], args := [d1, d2] }
  | _ => none }
def FnCachedByNameWalkFindsEachInTurnWrongFalsely : Prop := fnCachedByNameWalkFindsEachInTurnRow.holds Trym.pinned (OpenSpec.ofChange fnCachedByNameWalkFindsEachInTurnWrong)

/-- 'zzlaws_root_b1.FnCachedByNameStartAnywhere': WHATEVER THE INPUT: true; the input reads as it did. -/
def fnCachedByNameStartAnywhereSpec : ChangeSpec := { name := "fnCachedByNameStartAnywhere", fn := fun _ => fun
  | [d1, d2, d3] => { results := [.lit (.bool true)], args := [d1, d2, d3] }
  | _ => none }
def fnCachedByNameStartAnywhereRow : OpenClaim := { program := "qxb6608806amods", sum := "e0fa52fa7b3087b54558485f809b4d13c5d9ade77e696e26b59f75983659faa5", func := "example.com/cairnstore/cairnstore/zzlaws_root_b1.FnCachedByNameStartAnywhere", spec := "fnCachedByNameStartAnywhere", make := .lifted ["publicsums"], apart := false }
def FnCachedByNameStartAnywhereSaid : Prop := fnCachedByNameStartAnywhereRow.holds Trym.pinned (OpenSpec.ofChange fnCachedByNameStartAnywhereSpec)

/-- ITS FALSE NEIGHBOUR: 'it returns false'. Refute it at one input. -/
def fnCachedByNameStartAnywhereWrong : ChangeSpec := { name := "fnCachedByNameStartAnywhere", fn := fun _ => fun
  | [d1, d2, d3] => { results := [.lit (.bool false)], args := [d1, d2, d3] }
  | _ => none }
def FnCachedByNameStartAnywhereWrongFalsely : Prop := fnCachedByNameStartAnywhereRow.holds Trym.pinned (OpenSpec.ofChange fnCachedByNameStartAnywhereWrong)

end Rows
end Go.Proofs.Qxb6608806aMods
