/-
  No cell of these rows narrows 'for every input' (looked for: loops, veiled, ifaces, maps, wideKeys, modest, calm, conditions, laid).
  DERIVED. THE GIVEN ROWS OF THIS SEAT. 2 by the template 'for every input the law returns true; each argument reads behind the call as it read before'; 0 by the template 'total and deterministic' (their statements: Qxb6614066aTotals.lean).
  GIVEN WITH THE SEED: the statements are not yours to turn. If you find one false, say at which input.
  Laid BY PROGRAM, IN A SANDBOX (cutbox-rows.mjs): the forced cells as the released guide's own fill.sh prints them over the translation d03bd8e20a7b99a5… (all of the seat's roots in one cut). By AI agents, Wed Nov 11 2026. No macro, syntax, notation, axiom, sorry.
-/
import Derived.Test.Qxb6614066aChecked
import GoSem.Claim
import GoSem.ClaimJoined
import GoSem.ClaimMapViews
import Derived.JoinedTies
import Derived.KernelRfl
namespace Go.Proofs.Qxb6614066a
/- THE CELL 'sum', in the pinned program and in every row, IS THE sha256 OF THE DUMP (.gsa) THAT Qxb6614066aProg.lean LOADS. Nothing in Lean hashes anything: it is a label: what it is worth is what the hold of that sum in a sandbox is worth. -/
noncomputable def Try.pinned : Pinned := { name := "qxb6614066a", sum := "d03bd8e20a7b99a5bedb5ef2b9a355999ff960c3e708caa26b8d3f0373ea2563", checked := Try.checked }
namespace Rows
def none {H : Type} : Left H := { results := [], args := [] }

/-- 'zzlaws_internal_kv_b1.FnAppendHandoffKeepsPrefixAndEncodesFields': WHATEVER THE INPUT: true; the input reads as it did. -/
def fnAppendHandoffKeepsPrefixAndEncodesFieldsSpec : ChangeSpec := { name := "fnAppendHandoffKeepsPrefixAndEncodesFields", fn := fun _ => fun
  | [d1, d2, d3, d4, d5] => { results := [.lit (.bool true)], args := [d1, d2, d3, d4, d5] }
  | _ => none }
def fnAppendHandoffKeepsPrefixAndEncodesFieldsRow : OpenClaim := { program := "qxb6614066a", sum := "d03bd8e20a7b99a5bedb5ef2b9a355999ff960c3e708caa26b8d3f0373ea2563", func := "example.com/mete/mete/zzlaws_internal_kv_b1.FnAppendHandoffKeepsPrefixAndEncodesFields", spec := "fnAppendHandoffKeepsPrefixAndEncodesFields", apart := false }
def FnAppendHandoffKeepsPrefixAndEncodesFieldsSaid : Prop := fnAppendHandoffKeepsPrefixAndEncodesFieldsRow.holds Try.pinned (OpenSpec.ofChange fnAppendHandoffKeepsPrefixAndEncodesFieldsSpec)

/-- ITS FALSE NEIGHBOUR: 'it returns false'. Refute it at one input. -/
def fnAppendHandoffKeepsPrefixAndEncodesFieldsWrong : ChangeSpec := { name := "fnAppendHandoffKeepsPrefixAndEncodesFields", fn := fun _ => fun
  | [d1, d2, d3, d4, d5] => { results := [.lit (.bool false)], args := [d1, d2, d3, d4, d5] }
  | _ => none }
def FnAppendHandoffKeepsPrefixAndEncodesFieldsWrongFalsely : Prop := fnAppendHandoffKeepsPrefixAndEncodesFieldsRow.holds Try.pinned (OpenSpec.ofChange fnAppendHandoffKeepsPrefixAndEncodesFieldsWrong)

/-- 'zzlaws_internal_kv_b1.FnAppendHandoffSelfDelimitingAndInjective': WHATEVER THE INPUT: true; the input reads as it did. -/
def fnAppendHandoffSelfDelimitingAndInjectiveSpec : ChangeSpec := { name := "fnAppendHandoffSelfDelimitingAndInjective", fn := fun _ => fun
  | [d1, d2, d3, d4, d5, d6, d7, d8, d9] => { results := [.lit (.bool true)], args := [d1, d2, d3, d4, d5, d6, d7, d8, d9] }
  | _ => none }
def fnAppendHandoffSelfDelimitingAndInjectiveRow : OpenClaim := { program := "qxb6614066a", sum := "d03bd8e20a7b99a5bedb5ef2b9a355999ff960c3e708caa26b8d3f0373ea2563", func := "example.com/mete/mete/zzlaws_internal_kv_b1.FnAppendHandoffSelfDelimitingAndInjective", spec := "fnAppendHandoffSelfDelimitingAndInjective", apart := false }
def FnAppendHandoffSelfDelimitingAndInjectiveSaid : Prop := fnAppendHandoffSelfDelimitingAndInjectiveRow.holds Try.pinned (OpenSpec.ofChange fnAppendHandoffSelfDelimitingAndInjectiveSpec)

/-- ITS FALSE NEIGHBOUR: 'it returns false'. Refute it at one input. -/
def fnAppendHandoffSelfDelimitingAndInjectiveWrong : ChangeSpec := { name := "fnAppendHandoffSelfDelimitingAndInjective", fn := fun _ => fun
  | [d1, d2, d3, d4, d5, d6, d7, d8, d9] => { results := [.lit (.bool false)], args := [d1, d2, d3, d4, d5, d6, d7, d8, d9] }
  | _ => none }
def FnAppendHandoffSelfDelimitingAndInjectiveWrongFalsely : Prop := fnAppendHandoffSelfDelimitingAndInjectiveRow.holds Try.pinned (OpenSpec.ofChange fnAppendHandoffSelfDelimitingAndInjectiveWrong)

end Rows
end Go.Proofs.Qxb6614066a
