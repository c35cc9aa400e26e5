/-
  DERIVED. GIVEN WITH THE SEED: THE CARDS: each row of Qxb6612281aFmtRows.lean that lists a variable, with what it lists TIED to the program's text (the seventh form; the later family's looks); each row that meets fmt, with fmt's text TOLD by the authors' own Lean function (tested against real Go, not proved from fmt's source: count such statements apart). THE CARD IS WHAT COUNTS. Prove the row's statement (the work); the ties are given (Qxb6612281aFmtTie.lean); close each card by the builder's one call (the guide's Derived/Test/ToyasCard.lean, 'card_holds'). Laid BY PROGRAM, IN A SANDBOX (cutbox-door.mjs). By AI agents, Wed Nov 11 2026. No macro, syntax, notation, axiom, sorry.
-/
import Derived.Test.Qxb6612281aFmtRows
import GoSem.ClaimSeven
namespace Go.Proofs.Qxb6612281aFmt
namespace Rows

/-- THE TOLD CARD OF 'zzlaws_root_b1.FnParserWordSurvivesNest'. -/
def fnParserWordSurvivesNestCard : Claim7 := { stood := { row := fnParserWordSurvivesNestRow, standIns := [], harness := (true, "2d3110b1b1d0c59bf17d9d54d2cf7bc1e1b26b2769928a27054108aac0a26ae5"), looks := false }, told := true, goes := false }
def FnParserWordSurvivesNestToldSaid : Prop := Claim7.holds Tryf.pinned (.plain (OpenSpec.ofChange fnParserWordSurvivesNestSpec)) fnParserWordSurvivesNestCard
/-- ITS FALSE NEIGHBOUR. Refute it at one input. -/
def FnParserWordSurvivesNestToldWrongFalsely : Prop := Claim7.holds Tryf.pinned (.plain (OpenSpec.ofChange fnParserWordSurvivesNestWrong)) fnParserWordSurvivesNestCard

/-- THE TOLD CARD OF 'zzlaws_root_b1.FnParserNestScript'. -/
def fnParserNestScriptCard : Claim7 := { stood := { row := fnParserNestScriptRow, standIns := [], harness := (true, "2d3110b1b1d0c59bf17d9d54d2cf7bc1e1b26b2769928a27054108aac0a26ae5"), looks := false }, told := true, goes := false }
def FnParserNestScriptToldSaid : Prop := Claim7.holds Tryf.pinned (.plain (OpenSpec.ofChange fnParserNestScriptSpec)) fnParserNestScriptCard
/-- ITS FALSE NEIGHBOUR. Refute it at one input. -/
def FnParserNestScriptToldWrongFalsely : Prop := Claim7.holds Tryf.pinned (.plain (OpenSpec.ofChange fnParserNestScriptWrong)) fnParserNestScriptCard
end Rows
end Go.Proofs.Qxb6612281aFmt
