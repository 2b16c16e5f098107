/-
  No cell of these rows narrows 'for every input' (looked for: loops, veiled, ifaces, maps, wideKeys, modest, calm, conditions, laid).
  DERIVED. THE GIVEN ROWS OF THIS SEAT. 3 by the template 'for every input the law returns true; each argument reads behind the call as it read before'; 0 by the template 'total and deterministic' (their statements: Qxb6617328aTotals.lean).
  GIVEN WITH THE SEED: the statements are not yours to turn. If you find one false, say at which input.
  Laid BY PROGRAM, IN A SANDBOX (cutbox-rows.mjs): the forced cells as the released guide's own fill.sh prints them over the translation 38c907c02dd4af97… (all of the seat's roots in one cut). By AI agents, Wed Nov 11 2026. No macro, syntax, notation, axiom, sorry.
-/
import Derived.Test.Qxb6617328aChecked
import GoSem.Claim
import GoSem.ClaimJoined
import GoSem.ClaimMapViews
import Derived.JoinedTies
import Derived.KernelRfl
namespace Go.Proofs.Qxb6617328a
/- THE CELL 'sum', in the pinned program and in every row, IS THE sha256 OF THE DUMP (.gsa) THAT Qxb6617328aProg.lean LOADS. Nothing in Lean hashes anything: it is a label: what it is worth is what the hold of that sum in a sandbox is worth. -/
noncomputable def Try.pinned : Pinned := { name := "qxb6617328a", sum := "38c907c02dd4af97a2322a94a97c006e453246088b0eb655e0cc3c3edfe7b360", checked := Try.checked }
namespace Rows
def none {H : Type} : Left H := { results := [], args := [] }

/-- 'zzlaws_root_b1.FnNumberEndIsLongestViablePrefix': WHATEVER THE INPUT: true; the input reads as it did. -/
def fnNumberEndIsLongestViablePrefixSpec : ChangeSpec := { name := "fnNumberEndIsLongestViablePrefix", fn := fun _ => fun
  | [d1, d2, d3] => { results := [.lit (.bool true)], args := [d1, d2, d3] }
  | _ => none }
def fnNumberEndIsLongestViablePrefixRow : OpenClaim := { program := "qxb6617328a", sum := "38c907c02dd4af97a2322a94a97c006e453246088b0eb655e0cc3c3edfe7b360", func := "example.com/tidemark/tidemark/zzlaws_root_b1.FnNumberEndIsLongestViablePrefix", spec := "fnNumberEndIsLongestViablePrefix", apart := false }
def FnNumberEndIsLongestViablePrefixSaid : Prop := fnNumberEndIsLongestViablePrefixRow.holds Try.pinned (OpenSpec.ofChange fnNumberEndIsLongestViablePrefixSpec)

/-- ITS FALSE NEIGHBOUR: 'it returns false'. Refute it at one input. -/
def fnNumberEndIsLongestViablePrefixWrong : ChangeSpec := { name := "fnNumberEndIsLongestViablePrefix", fn := fun _ => fun
  | [d1, d2, d3] => { results := [.lit (.bool false)], args := [d1, d2, d3] }
  | _ => none }
def FnNumberEndIsLongestViablePrefixWrongFalsely : Prop := fnNumberEndIsLongestViablePrefixRow.holds Try.pinned (OpenSpec.ofChange fnNumberEndIsLongestViablePrefixWrong)

/-- 'zzlaws_root_b1.FnFindIsLastMemberOfKey': WHATEVER THE INPUT: true; the input reads as it did. -/
def fnFindIsLastMemberOfKeySpec : ChangeSpec := { name := "fnFindIsLastMemberOfKey", fn := fun _ => fun
  | [d1, d2, d3] => { results := [.lit (.bool true)], args := [d1, d2, d3] }
  | _ => none }
def fnFindIsLastMemberOfKeyRow : OpenClaim := { program := "qxb6617328a", sum := "38c907c02dd4af97a2322a94a97c006e453246088b0eb655e0cc3c3edfe7b360", func := "example.com/tidemark/tidemark/zzlaws_root_b1.FnFindIsLastMemberOfKey", spec := "fnFindIsLastMemberOfKey", apart := false }
def FnFindIsLastMemberOfKeySaid : Prop := fnFindIsLastMemberOfKeyRow.holds Try.pinned (OpenSpec.ofChange fnFindIsLastMemberOfKeySpec)

/-- ITS FALSE NEIGHBOUR: 'it returns false'. Refute it at one input. -/
def fnFindIsLastMemberOfKeyWrong : ChangeSpec := { name := "fnFindIsLastMemberOfKey", fn := fun _ => fun
  | [d1, d2, d3] => { results := [.lit (.bool false)], args := [d1, d2, d3] }
  | _ => none }
def FnFindIsLastMemberOfKeyWrongFalsely : Prop := fnFindIsLastMemberOfKeyRow.holds Try.pinned (OpenSpec.ofChange fnFindIsLastMemberOfKeyWrong)

/-- 'zzlaws_root_b1.FnKeysListsWhatFindFinds': WHATEVER THE INPUT: true; the input reads as it did. -/
def fnKeysListsWhatFindFindsSpec : ChangeSpec := { name := "fnKeysListsWhatFindFinds", fn := fun _ => fun
  | [d1, d2] => { results := [.lit (.bool true)], args := [d1, d2] }
  | _ => none }
def fnKeysListsWhatFindFindsRow : OpenClaim := { program := "qxb6617328a", sum := "38c907c02dd4af97a2322a94a97c006e453246088b0eb655e0cc3c3edfe7b360", func := "example.com/tidemark/tidemark/zzlaws_root_b1.FnKeysListsWhatFindFinds", spec := "fnKeysListsWhatFindFinds", recurses := true, apart := false }
def FnKeysListsWhatFindFindsSaid : Prop := fnKeysListsWhatFindFindsRow.holds Try.pinned (OpenSpec.ofChange fnKeysListsWhatFindFindsSpec)

/-- ITS FALSE NEIGHBOUR: 'it returns false'. Refute it at one input. -/
def fnKeysListsWhatFindFindsWrong : ChangeSpec := { name := "fnKeysListsWhatFindFinds", fn := fun _ => fun
  | [d1, d2] => { results := [.lit (.bool false)], args := [d1, d2] }
  | _ => none }
def FnKeysListsWhatFindFindsWrongFalsely : Prop := fnKeysListsWhatFindFindsRow.holds Try.pinned (OpenSpec.ofChange fnKeysListsWhatFindFindsWrong)

end Rows
end Go.Proofs.Qxb6617328a
