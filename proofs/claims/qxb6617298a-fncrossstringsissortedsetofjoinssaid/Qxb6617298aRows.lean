/-
  No cell of these rows narrows 'for every input' (looked for: loops, veiled, ifaces, maps, wideKeys, modest, calm, conditions, laid).
  DERIVED. THE GIVEN ROWS OF THIS SEAT. 2 by the template 'for every input the law returns true; each argument reads behind the call as it read before'; 0 by the template 'total and deterministic' (their statements: Qxb6617298aTotals.lean).
  GIVEN WITH THE SEED: the statements are not yours to turn. If you find one false, say at which input.
  Laid BY PROGRAM, IN A SANDBOX (cutbox-rows.mjs): the forced cells as the released guide's own fill.sh prints them over the translation 517f8e101d92bb52… (all of the seat's roots in one cut). By AI agents, Wed Nov 11 2026. No macro, syntax, notation, axiom, sorry.
-/
import Derived.Test.Qxb6617298aChecked
import GoSem.Claim
import GoSem.ClaimJoined
import GoSem.ClaimMapViews
import Derived.JoinedTies
import Derived.KernelRfl
namespace Go.Proofs.Qxb6617298a
/- THE CELL 'sum', in the pinned program and in every row, IS THE sha256 OF THE DUMP (.gsa) THAT Qxb6617298aProg.lean LOADS. Nothing in Lean hashes anything: it is a label: what it is worth is what the hold of that sum in a sandbox is worth. -/
noncomputable def Try.pinned : Pinned := { name := "qxb6617298a", sum := "517f8e101d92bb520d0e8b1a798f7a508c3e7b6f260a9a7b31521a8bac5f90e8", checked := Try.checked }
namespace Rows
def none {H : Type} : Left H := { results := [], args := [] }

/-- 'zzlaws_root_b1.FnCrossStringsIsSortedSetOfJoins': WHATEVER THE INPUT: true; the input reads as it did. -/
def fnCrossStringsIsSortedSetOfJoinsSpec : ChangeSpec := { name := "fnCrossStringsIsSortedSetOfJoins", fn := fun _ => fun
  | [d1, d2] => { results := [.lit (.bool true)], args := [d1, d2] }
  | _ => none }
def fnCrossStringsIsSortedSetOfJoinsRow : OpenClaim := { program := "qxb6617298a", sum := "517f8e101d92bb520d0e8b1a798f7a508c3e7b6f260a9a7b31521a8bac5f90e8", func := "example.com/proven-crawler/proven-crawler/zzlaws_root_b1.FnCrossStringsIsSortedSetOfJoins", spec := "fnCrossStringsIsSortedSetOfJoins", recurses := true, apart := false }
def FnCrossStringsIsSortedSetOfJoinsSaid : Prop := fnCrossStringsIsSortedSetOfJoinsRow.holds Try.pinned (OpenSpec.ofChange fnCrossStringsIsSortedSetOfJoinsSpec)

/-- ITS FALSE NEIGHBOUR: 'it returns false'. Refute it at one input. -/
def fnCrossStringsIsSortedSetOfJoinsWrong : ChangeSpec := { name := "fnCrossStringsIsSortedSetOfJoins", fn := fun _ => fun
  | [d1, d2] => { results := [.lit (.bool false)], args := [d1, d2] }
  | _ => none }
def FnCrossStringsIsSortedSetOfJoinsWrongFalsely : Prop := fnCrossStringsIsSortedSetOfJoinsRow.holds Try.pinned (OpenSpec.ofChange fnCrossStringsIsSortedSetOfJoinsWrong)

/-- 'zzlaws_root_b1.FnBetterNeedlesBestOfThree': WHATEVER THE INPUT: true; the input reads as it did. -/
def fnBetterNeedlesBestOfThreeSpec : ChangeSpec := { name := "fnBetterNeedlesBestOfThree", fn := fun _ => fun
  | [d1, d2, d3, d4, d5, d6] => { results := [.lit (.bool true)], args := [d1, d2, d3, d4, d5, d6] }
  | _ => none }
def fnBetterNeedlesBestOfThreeRow : OpenClaim := { program := "qxb6617298a", sum := "517f8e101d92bb520d0e8b1a798f7a508c3e7b6f260a9a7b31521a8bac5f90e8", func := "example.com/proven-crawler/proven-crawler/zzlaws_root_b1.FnBetterNeedlesBestOfThree", spec := "fnBetterNeedlesBestOfThree", unfollowed := true, recurses := true, apart := false }
def FnBetterNeedlesBestOfThreeSaid : Prop := fnBetterNeedlesBestOfThreeRow.holds Try.pinned (OpenSpec.ofChange fnBetterNeedlesBestOfThreeSpec)

/-- ITS FALSE NEIGHBOUR: 'it returns false'. Refute it at one input. -/
def fnBetterNeedlesBestOfThreeWrong : ChangeSpec := { name := "fnBetterNeedlesBestOfThree", fn := fun _ => fun
  | [d1, d2, d3, d4, d5, d6] => { results := [.lit (.bool false)], args := [d1, d2, d3, d4, d5, d6] }
  | _ => none }
def FnBetterNeedlesBestOfThreeWrongFalsely : Prop := fnBetterNeedlesBestOfThreeRow.holds Try.pinned (OpenSpec.ofChange fnBetterNeedlesBestOfThreeWrong)

end Rows
end Go.Proofs.Qxb6617298a
