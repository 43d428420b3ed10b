/-
  No cell of these rows narrows 'for every input' (looked for: loops, veiled, ifaces, maps, wideKeys, modest, calm, conditions, laid).
  DERIVED. THE GIVEN ROWS OF THIS SEAT. 2 by the template 'for every input the law returns true; each argument reads behind the call as it read before'; 0 by the template 'total and deterministic' (their statements: Qxb6613941aFmtTotals.lean).
  GIVEN WITH THE SEED: the statements are not yours to turn. If you find one false, say at which input.
  Laid BY PROGRAM, IN A SANDBOX (cutbox-rows.mjs): the forced cells as the released guide's own fill.sh prints them over the translation 79af49c8b4251ead… (all of the seat's roots in one cut). By AI agents, Wed Nov 11 2026. No macro, syntax, notation, axiom, sorry.
-/
import Derived.Test.Qxb6613941aFmtChecked
import GoSem.Claim
import GoSem.ClaimJoined
import GoSem.ClaimMapViews
import Derived.JoinedTies
import Derived.KernelRfl
namespace Go.Proofs.Qxb6613941aFmt
/- THE CELL 'sum', in the pinned program and in every row, IS THE sha256 OF THE DUMP (.gsa) THAT Qxb6613941aFmtProg.lean LOADS. Nothing in Lean hashes anything: it is a label: what it is worth is what the hold of that sum in a sandbox is worth. -/
noncomputable def Tryf.pinned : Pinned := { name := "qxb6613941afmt", sum := "79af49c8b4251ead2196ea7de5e21ea9b7e7601fbbfd76338b5cdf0342182fd7", checked := Tryf.checked }
namespace Rows
def none {H : Type} : Left H := { results := [], args := [] }

/-- 'zzlaws_route_b1.FnCheckEncodingTagRefusesWhatRepoRefusesAndAMissingRepository': WHATEVER THE INPUT: true; the input reads as it did. -/
def fnCheckEncodingTagRefusesWhatRepoRefusesAndAMissingRepositorySpec : ChangeSpec := { name := "fnCheckEncodingTagRefusesWhatRepoRefusesAndAMissingRepository", fn := fun _ => fun
  | [d1, d2, d3, d4, d5, d6, d7] => { results := [.lit (.bool true)], args := [d1, d2, d3, d4, d5, d6, d7] }
  | _ => none }
def fnCheckEncodingTagRefusesWhatRepoRefusesAndAMissingRepositoryRow : OpenClaim := { program := "qxb6613941afmt", sum := "79af49c8b4251ead2196ea7de5e21ea9b7e7601fbbfd76338b5cdf0342182fd7", func := "example.com/modroute/modroute/zzlaws_route_b1.FnCheckEncodingTagRefusesWhatRepoRefusesAndAMissingRepository", spec := "fnCheckEncodingTagRefusesWhatRepoRefusesAndAMissingRepository", stops := ["fmt.errorf, its operands' methods called", "fmt.Sprintf"], inPlace := ["fmt.errorf"], unfollowed := true, recurses := true, apart := false }
/-- NO THEOREM (fmt's text is open here; it may be false): for the released tool's asking of the row's closed facts alone. THE STATEMENT IS 'FnCheckEncodingTagRefusesWhatRepoRefusesAndAMissingRepositoryToldSaid' (Qxb6613941aFmtCards.lean). -/
def FnCheckEncodingTagRefusesWhatRepoRefusesAndAMissingRepositoryFormAsk : Prop := fnCheckEncodingTagRefusesWhatRepoRefusesAndAMissingRepositoryRow.holds Tryf.pinned (OpenSpec.ofChange fnCheckEncodingTagRefusesWhatRepoRefusesAndAMissingRepositorySpec)

/-- ITS FALSE NEIGHBOUR: 'it returns false'. Refute it at one input. -/
def fnCheckEncodingTagRefusesWhatRepoRefusesAndAMissingRepositoryWrong : ChangeSpec := { name := "fnCheckEncodingTagRefusesWhatRepoRefusesAndAMissingRepository", fn := fun _ => fun
  | [d1, d2, d3, d4, d5, d6, d7] => { results := [.lit (.bool false)], args := [d1, d2, d3, d4, d5, d6, d7] }
  | _ => none }
def FnCheckEncodingTagRefusesWhatRepoRefusesAndAMissingRepositoryWrongFormAsk : Prop := fnCheckEncodingTagRefusesWhatRepoRefusesAndAMissingRepositoryRow.holds Tryf.pinned (OpenSpec.ofChange fnCheckEncodingTagRefusesWhatRepoRefusesAndAMissingRepositoryWrong)

/-- 'zzlaws_route_b1.FnCheckEncodingStripRefusedOffThePathEncodingOnly': WHATEVER THE INPUT: true; the input reads as it did. -/
def fnCheckEncodingStripRefusedOffThePathEncodingOnlySpec : ChangeSpec := { name := "fnCheckEncodingStripRefusedOffThePathEncodingOnly", fn := fun _ => fun
  | [d1, d2, d3, d4, d5, d6, d7, d8, d9] => { results := [.lit (.bool true)], args := [d1, d2, d3, d4, d5, d6, d7, d8, d9] }
  | _ => none }
def fnCheckEncodingStripRefusedOffThePathEncodingOnlyRow : OpenClaim := { program := "qxb6613941afmt", sum := "79af49c8b4251ead2196ea7de5e21ea9b7e7601fbbfd76338b5cdf0342182fd7", func := "example.com/modroute/modroute/zzlaws_route_b1.FnCheckEncodingStripRefusedOffThePathEncodingOnly", spec := "fnCheckEncodingStripRefusedOffThePathEncodingOnly", stops := ["fmt.errorf, its operands' methods called", "fmt.Sprintf"], inPlace := ["fmt.errorf"], unfollowed := true, recurses := true, apart := false }
/-- NO THEOREM (fmt's text is open here; it may be false): for the released tool's asking of the row's closed facts alone. THE STATEMENT IS 'FnCheckEncodingStripRefusedOffThePathEncodingOnlyToldSaid' (Qxb6613941aFmtCards.lean). -/
def FnCheckEncodingStripRefusedOffThePathEncodingOnlyFormAsk : Prop := fnCheckEncodingStripRefusedOffThePathEncodingOnlyRow.holds Tryf.pinned (OpenSpec.ofChange fnCheckEncodingStripRefusedOffThePathEncodingOnlySpec)

/-- ITS FALSE NEIGHBOUR: 'it returns false'. Refute it at one input. -/
def fnCheckEncodingStripRefusedOffThePathEncodingOnlyWrong : ChangeSpec := { name := "fnCheckEncodingStripRefusedOffThePathEncodingOnly", fn := fun _ => fun
  | [d1, d2, d3, d4, d5, d6, d7, d8, d9] => { results := [.lit (.bool false)], args := [d1, d2, d3, d4, d5, d6, d7, d8, d9] }
  | _ => none }
def FnCheckEncodingStripRefusedOffThePathEncodingOnlyWrongFormAsk : Prop := fnCheckEncodingStripRefusedOffThePathEncodingOnlyRow.holds Tryf.pinned (OpenSpec.ofChange fnCheckEncodingStripRefusedOffThePathEncodingOnlyWrong)

end Rows
end Go.Proofs.Qxb6613941aFmt
