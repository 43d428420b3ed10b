/-
  DERIVED. GIVEN WITH THE SEED: THE CARDS: each row of Qxb6613941aFmtRows.lean that lists a variable, with what it lists TIED to the program's text (the seventh form; the later family's looks); each row that meets fmt, with fmt's text TOLD by the authors' own Lean function (tested against real Go, not proved from fmt's source: count such statements apart). THE CARD IS WHAT COUNTS. Prove the row's statement (the work); the ties are given (Qxb6613941aFmtTie.lean); close each card by the builder's one call (the guide's Derived/Test/ToyasCard.lean, 'card_holds'). Laid BY PROGRAM, IN A SANDBOX (cutbox-door.mjs). By AI agents, Wed Nov 11 2026. No macro, syntax, notation, axiom, sorry.
-/
import Derived.Test.Qxb6613941aFmtRows
import GoSem.ClaimSeven
namespace Go.Proofs.Qxb6613941aFmt
namespace Rows

/-- THE TOLD CARD OF 'zzlaws_route_b1.FnCheckEncodingTagRefusesWhatRepoRefusesAndAMissingRepository'. -/
def fnCheckEncodingTagRefusesWhatRepoRefusesAndAMissingRepositoryCard : Claim7 := { stood := { row := fnCheckEncodingTagRefusesWhatRepoRefusesAndAMissingRepositoryRow, standIns := [], harness := (true, "87e43ab7bc42050313518078633e8a179d1f2c25f0a92241861d478a965843ce"), looks := false }, told := true, goes := false }
def FnCheckEncodingTagRefusesWhatRepoRefusesAndAMissingRepositoryToldSaid : Prop := Claim7.holds Tryf.pinned (.plain (OpenSpec.ofChange fnCheckEncodingTagRefusesWhatRepoRefusesAndAMissingRepositorySpec)) fnCheckEncodingTagRefusesWhatRepoRefusesAndAMissingRepositoryCard
/-- ITS FALSE NEIGHBOUR. Refute it at one input. -/
def FnCheckEncodingTagRefusesWhatRepoRefusesAndAMissingRepositoryToldWrongFalsely : Prop := Claim7.holds Tryf.pinned (.plain (OpenSpec.ofChange fnCheckEncodingTagRefusesWhatRepoRefusesAndAMissingRepositoryWrong)) fnCheckEncodingTagRefusesWhatRepoRefusesAndAMissingRepositoryCard

/-- THE TOLD CARD OF 'zzlaws_route_b1.FnCheckEncodingStripRefusedOffThePathEncodingOnly'. -/
def fnCheckEncodingStripRefusedOffThePathEncodingOnlyCard : Claim7 := { stood := { row := fnCheckEncodingStripRefusedOffThePathEncodingOnlyRow, standIns := [], harness := (true, "87e43ab7bc42050313518078633e8a179d1f2c25f0a92241861d478a965843ce"), looks := false }, told := true, goes := false }
def FnCheckEncodingStripRefusedOffThePathEncodingOnlyToldSaid : Prop := Claim7.holds Tryf.pinned (.plain (OpenSpec.ofChange fnCheckEncodingStripRefusedOffThePathEncodingOnlySpec)) fnCheckEncodingStripRefusedOffThePathEncodingOnlyCard
/-- ITS FALSE NEIGHBOUR. Refute it at one input. -/
def FnCheckEncodingStripRefusedOffThePathEncodingOnlyToldWrongFalsely : Prop := Claim7.holds Tryf.pinned (.plain (OpenSpec.ofChange fnCheckEncodingStripRefusedOffThePathEncodingOnlyWrong)) fnCheckEncodingStripRefusedOffThePathEncodingOnlyCard
end Rows
end Go.Proofs.Qxb6613941aFmt
