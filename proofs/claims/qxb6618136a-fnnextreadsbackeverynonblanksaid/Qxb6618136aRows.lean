/-
  No cell of these rows narrows 'for every input' (looked for: loops, veiled, ifaces, maps, wideKeys, modest, calm, conditions, laid).
  DERIVED. THE GIVEN ROWS OF THIS SEAT. 2 by the template 'for every input the law returns true; each argument reads behind the call as it read before'; 0 by the template 'total and deterministic' (their statements: Qxb6618136aTotals.lean).
  GIVEN WITH THE SEED: the statements are not yours to turn. If you find one false, say at which input.
  Laid BY PROGRAM, IN A SANDBOX (cutbox-rows.mjs): the forced cells as the released guide's own fill.sh prints them over the translation 11595d7e2b7914bf… (all of the seat's roots in one cut). By AI agents, Wed Nov 11 2026. No macro, syntax, notation, axiom, sorry.
-/
import Derived.Test.Qxb6618136aChecked
import GoSem.Claim
import GoSem.ClaimJoined
import GoSem.ClaimMapViews
import Derived.JoinedTies
import Derived.KernelRfl
namespace Go.Proofs.Qxb6618136a
/- THE CELL 'sum', in the pinned program and in every row, IS THE sha256 OF THE DUMP (.gsa) THAT Qxb6618136aProg.lean LOADS. Nothing in Lean hashes anything: it is a label: what it is worth is what the hold of that sum in a sandbox is worth. -/
noncomputable def Try.pinned : Pinned := { name := "qxb6618136a", sum := "11595d7e2b7914bf56a6bad222a0ff28af29fef8f5256d9d297667f3e61f3103", checked := Try.checked }
namespace Rows
def none {H : Type} : Left H := { results := [], args := [] }

/-- 'zzlaws_pkg_predicate_b1.FnSkipSpaceStopsAtFirstNonBlank': WHATEVER THE INPUT: true; the input reads as it did. -/
def fnSkipSpaceStopsAtFirstNonBlankSpec : ChangeSpec := { name := "fnSkipSpaceStopsAtFirstNonBlank", fn := fun _ => fun
  | [d1, d2, d3] => { results := [.lit (.bool true)], args := [d1, d2, d3] }
  | _ => none }
def fnSkipSpaceStopsAtFirstNonBlankRow : OpenClaim := { program := "qxb6618136a", sum := "11595d7e2b7914bf56a6bad222a0ff28af29fef8f5256d9d297667f3e61f3103", func := "example.com/cairnmesh/cairnmesh/zzlaws_pkg_predicate_b1.FnSkipSpaceStopsAtFirstNonBlank", spec := "fnSkipSpaceStopsAtFirstNonBlank", apart := false }
def FnSkipSpaceStopsAtFirstNonBlankSaid : Prop := fnSkipSpaceStopsAtFirstNonBlankRow.holds Try.pinned (OpenSpec.ofChange fnSkipSpaceStopsAtFirstNonBlankSpec)

/-- ITS FALSE NEIGHBOUR: 'it returns false'. Refute it at one input. -/
def fnSkipSpaceStopsAtFirstNonBlankWrong : ChangeSpec := { name := "fnSkipSpaceStopsAtFirstNonBlank", fn := fun _ => fun
  | [d1, d2, d3] => { results := [.lit (.bool false)], args := [d1, d2, d3] }
  | _ => none }
def FnSkipSpaceStopsAtFirstNonBlankWrongFalsely : Prop := fnSkipSpaceStopsAtFirstNonBlankRow.holds Try.pinned (OpenSpec.ofChange fnSkipSpaceStopsAtFirstNonBlankWrong)

/-- 'zzlaws_pkg_predicate_b1.FnNextReadsBackEveryNonBlank': WHATEVER THE INPUT: true; the input reads as it did. -/
def fnNextReadsBackEveryNonBlankSpec : ChangeSpec := { name := "fnNextReadsBackEveryNonBlank", fn := fun _ => fun
  | [d1, d2, d3, d4] => { results := [.lit (.bool true)], args := [d1, d2, d3, d4] }
  | _ => none }
def fnNextReadsBackEveryNonBlankRow : OpenClaim := { program := "qxb6618136a", sum := "11595d7e2b7914bf56a6bad222a0ff28af29fef8f5256d9d297667f3e61f3103", func := "example.com/cairnmesh/cairnmesh/zzlaws_pkg_predicate_b1.FnNextReadsBackEveryNonBlank", spec := "fnNextReadsBackEveryNonBlank", apart := false }
def FnNextReadsBackEveryNonBlankSaid : Prop := fnNextReadsBackEveryNonBlankRow.holds Try.pinned (OpenSpec.ofChange fnNextReadsBackEveryNonBlankSpec)

/-- ITS FALSE NEIGHBOUR: 'it returns false'. Refute it at one input. -/
def fnNextReadsBackEveryNonBlankWrong : ChangeSpec := { name := "fnNextReadsBackEveryNonBlank", fn := fun _ => fun
  | [d1, d2, d3, d4] => { results := [.lit (.bool false)], args := [d1, d2, d3, d4] }
  | _ => none }
def FnNextReadsBackEveryNonBlankWrongFalsely : Prop := fnNextReadsBackEveryNonBlankRow.holds Try.pinned (OpenSpec.ofChange fnNextReadsBackEveryNonBlankWrong)

end Rows
end Go.Proofs.Qxb6618136a
