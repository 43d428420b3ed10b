/-
  No cell of these rows narrows 'for every input' (looked for: loops, veiled, ifaces, maps, wideKeys, modest, calm, conditions, laid).
  DERIVED. THE GIVEN ROWS OF THIS SEAT. 2 by the template 'for every input the law returns true; each argument reads behind the call as it read before'; 0 by the template 'total and deterministic' (their statements: Qxb6613927aTotals.lean).
  GIVEN WITH THE SEED: the statements are not yours to turn. If you find one false, say at which input.
  Laid BY PROGRAM, IN A SANDBOX (cutbox-rows.mjs): the forced cells as the released guide's own fill.sh prints them over the translation 5e62f31fcf11a7f6… (all of the seat's roots in one cut). By AI agents, Wed Nov 11 2026. No macro, syntax, notation, axiom, sorry.
-/
import Derived.Test.Qxb6613927aChecked
import GoSem.Claim
import GoSem.ClaimJoined
import GoSem.ClaimMapViews
import Derived.JoinedTies
import Derived.KernelRfl
namespace Go.Proofs.Qxb6613927a
/- THE CELL 'sum', in the pinned program and in every row, IS THE sha256 OF THE DUMP (.gsa) THAT Qxb6613927aProg.lean LOADS. Nothing in Lean hashes anything: it is a label: what it is worth is what the hold of that sum in a sandbox is worth. -/
noncomputable def Try.pinned : Pinned := { name := "qxb6613927a", sum := "5e62f31fcf11a7f6c36277a471e5fa0fede3220e12b91e0bd9eae43c0628d3eb", checked := Try.checked }
namespace Rows
def none {H : Type} : Left H := { results := [], args := [] }

/-- 'zzlaws_migration_b1.FnFileNameStringReadsBack': WHATEVER THE INPUT: true; the input reads as it did. -/
def fnFileNameStringReadsBackSpec : ChangeSpec := { name := "fnFileNameStringReadsBack", fn := fun _ => fun
  | [d1, d2, d3, d4] => { results := [.lit (.bool true)], args := [d1, d2, d3, d4] }
  | _ => none }
def fnFileNameStringReadsBackRow : OpenClaim := { program := "qxb6613927a", sum := "5e62f31fcf11a7f6c36277a471e5fa0fede3220e12b91e0bd9eae43c0628d3eb", func := "example.com/volvox/volvox/zzlaws_migration_b1.FnFileNameStringReadsBack", spec := "fnFileNameStringReadsBack", apart := false }
def FnFileNameStringReadsBackSaid : Prop := fnFileNameStringReadsBackRow.holds Try.pinned (OpenSpec.ofChange fnFileNameStringReadsBackSpec)

/-- ITS FALSE NEIGHBOUR: 'it returns false'. Refute it at one input. -/
def fnFileNameStringReadsBackWrong : ChangeSpec := { name := "fnFileNameStringReadsBack", fn := fun _ => fun
  | [d1, d2, d3, d4] => { results := [.lit (.bool false)], args := [d1, d2, d3, d4] }
  | _ => none }
def FnFileNameStringReadsBackWrongFalsely : Prop := fnFileNameStringReadsBackRow.holds Try.pinned (OpenSpec.ofChange fnFileNameStringReadsBackWrong)

/-- 'zzlaws_migration_b1.FnIsDigitCannotBeginDollarTag': WHATEVER THE INPUT: true; the input reads as it did. -/
def fnIsDigitCannotBeginDollarTagSpec : ChangeSpec := { name := "fnIsDigitCannotBeginDollarTag", fn := fun _ => fun
  | [d1, d2] => { results := [.lit (.bool true)], args := [d1, d2] }
  | _ => none }
def fnIsDigitCannotBeginDollarTagRow : OpenClaim := { program := "qxb6613927a", sum := "5e62f31fcf11a7f6c36277a471e5fa0fede3220e12b91e0bd9eae43c0628d3eb", func := "example.com/volvox/volvox/zzlaws_migration_b1.FnIsDigitCannotBeginDollarTag", spec := "fnIsDigitCannotBeginDollarTag", apart := false }
def FnIsDigitCannotBeginDollarTagSaid : Prop := fnIsDigitCannotBeginDollarTagRow.holds Try.pinned (OpenSpec.ofChange fnIsDigitCannotBeginDollarTagSpec)

/-- ITS FALSE NEIGHBOUR: 'it returns false'. Refute it at one input. -/
def fnIsDigitCannotBeginDollarTagWrong : ChangeSpec := { name := "fnIsDigitCannotBeginDollarTag", fn := fun _ => fun
  | [d1, d2] => { results := [.lit (.bool false)], args := [d1, d2] }
  | _ => none }
def FnIsDigitCannotBeginDollarTagWrongFalsely : Prop := fnIsDigitCannotBeginDollarTagRow.holds Try.pinned (OpenSpec.ofChange fnIsDigitCannotBeginDollarTagWrong)

end Rows
end Go.Proofs.Qxb6613927a
