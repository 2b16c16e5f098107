/-
  No cell of these rows narrows 'for every input' (looked for: loops, veiled, ifaces, maps, wideKeys, modest, calm, conditions, laid).
  DERIVED. THE GIVEN ROWS OF THIS SEAT. 2 by the template 'for every input the law returns true; each argument reads behind the call as it read before'; 0 by the template 'total and deterministic' (their statements: Qxb6619391aTotals.lean).
  GIVEN WITH THE SEED: the statements are not yours to turn. If you find one false, say at which input.
  Laid BY PROGRAM, IN A SANDBOX (cutbox-rows.mjs): the forced cells as the released guide's own fill.sh prints them over the translation 7b7b37ea229078d9… (all of the seat's roots in one cut). By AI agents, Wed Nov 11 2026. No macro, syntax, notation, axiom, sorry.
-/
import Derived.Test.Qxb6619391aChecked
import GoSem.Claim
import GoSem.ClaimJoined
import GoSem.ClaimMapViews
import Derived.JoinedTies
import Derived.KernelRfl
namespace Go.Proofs.Qxb6619391a
/- THE CELL 'sum', in the pinned program and in every row, IS THE sha256 OF THE DUMP (.gsa) THAT Qxb6619391aProg.lean LOADS. Nothing in Lean hashes anything: it is a label: what it is worth is what the hold of that sum in a sandbox is worth. -/
noncomputable def Try.pinned : Pinned := { name := "qxb6619391a", sum := "7b7b37ea229078d9eb1ca1f6bfac7be65ba78159b5715780b1f48d20365a24d8", checked := Try.checked }
namespace Rows
def none {H : Type} : Left H := { results := [], args := [] }

/-- 'zzlaws_internal_catalog_b1.FnScheduleChangesCompose': WHATEVER THE INPUT: true; the input reads as it did. -/
def fnScheduleChangesComposeSpec : ChangeSpec := { name := "fnScheduleChangesCompose", fn := fun _ => fun
  | [d1, d2, d3, d4, d5, d6, d7, d8] => { results := [.lit (.bool true)], args := [d1, d2, d3, d4, d5, d6, d7, d8] }
  | _ => none }
def fnScheduleChangesComposeRow : OpenClaim := { program := "qxb6619391a", sum := "7b7b37ea229078d9eb1ca1f6bfac7be65ba78159b5715780b1f48d20365a24d8", func := "example.com/rollcall/rollcall/zzlaws_internal_catalog_b1.FnScheduleChangesCompose", spec := "fnScheduleChangesCompose", apart := false }
def FnScheduleChangesComposeSaid : Prop := fnScheduleChangesComposeRow.holds Try.pinned (OpenSpec.ofChange fnScheduleChangesComposeSpec)

/-- ITS FALSE NEIGHBOUR: 'it returns false'. Refute it at one input. -/
def fnScheduleChangesComposeWrong : ChangeSpec := { name := "fnScheduleChangesCompose", fn := fun _ => fun
  | [d1, d2, d3, d4, d5, d6, d7, d8] => { results := [.lit (.bool false)], args := [d1, d2, d3, d4, d5, d6, d7, d8] }
  | _ => none }
def FnScheduleChangesComposeWrongFalsely : Prop := fnScheduleChangesComposeRow.holds Try.pinned (OpenSpec.ofChange fnScheduleChangesComposeWrong)

/-- 'zzlaws_internal_catalog_b1.FnLimitsChangesCompose': WHATEVER THE INPUT: true; the input reads as it did. -/
def fnLimitsChangesComposeSpec : ChangeSpec := { name := "fnLimitsChangesCompose", fn := fun _ => fun
  | [d1, d2, d3, d4] => { results := [.lit (.bool true)], args := [d1, d2, d3, d4] }
  | _ => none }
def fnLimitsChangesComposeRow : OpenClaim := { program := "qxb6619391a", sum := "7b7b37ea229078d9eb1ca1f6bfac7be65ba78159b5715780b1f48d20365a24d8", func := "example.com/rollcall/rollcall/zzlaws_internal_catalog_b1.FnLimitsChangesCompose", spec := "fnLimitsChangesCompose", apart := false }
def FnLimitsChangesComposeSaid : Prop := fnLimitsChangesComposeRow.holds Try.pinned (OpenSpec.ofChange fnLimitsChangesComposeSpec)

/-- ITS FALSE NEIGHBOUR: 'it returns false'. Refute it at one input. -/
def fnLimitsChangesComposeWrong : ChangeSpec := { name := "fnLimitsChangesCompose", fn := fun _ => fun
  | [d1, d2, d3, d4] => { results := [.lit (.bool false)], args := [d1, d2, d3, d4] }
  | _ => none }
def FnLimitsChangesComposeWrongFalsely : Prop := fnLimitsChangesComposeRow.holds Try.pinned (OpenSpec.ofChange fnLimitsChangesComposeWrong)

end Rows
end Go.Proofs.Qxb6619391a
