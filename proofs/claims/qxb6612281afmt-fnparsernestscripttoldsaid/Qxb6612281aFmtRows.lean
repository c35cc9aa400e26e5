/-
  No cell of these rows narrows 'for every input' (looked for: loops, veiled, ifaces, maps, wideKeys, modest, calm, conditions, laid).
  DERIVED. THE GIVEN ROWS OF THIS SEAT. 2 by the template 'for every input the law returns true; each argument reads behind the call as it read before'; 0 by the template 'total and deterministic' (their statements: Qxb6612281aFmtTotals.lean).
  GIVEN WITH THE SEED: the statements are not yours to turn. If you find one false, say at which input.
  Laid BY PROGRAM, IN A SANDBOX (cutbox-rows.mjs): the forced cells as the released guide's own fill.sh prints them over the translation 91a656f9ce3bb243… (all of the seat's roots in one cut). By AI agents, Wed Nov 11 2026. No macro, syntax, notation, axiom, sorry.
-/
import Derived.Test.Qxb6612281aFmtChecked
import GoSem.Claim
import GoSem.ClaimJoined
import GoSem.ClaimMapViews
import Derived.JoinedTies
import Derived.KernelRfl
namespace Go.Proofs.Qxb6612281aFmt
/- THE CELL 'sum', in the pinned program and in every row, IS THE sha256 OF THE DUMP (.gsa) THAT Qxb6612281aFmtProg.lean LOADS. Nothing in Lean hashes anything: it is a label: what it is worth is what the hold of that sum in a sandbox is worth. -/
noncomputable def Tryf.pinned : Pinned := { name := "qxb6612281afmt", sum := "91a656f9ce3bb243bd584d1e6341bd2c68a15c7a07c577fd84f9b6a2ec64081a", checked := Tryf.checked }
namespace Rows
def none {H : Type} : Left H := { results := [], args := [] }

/-- 'zzlaws_root_b1.FnParserWordSurvivesNest': WHATEVER THE INPUT: true; the input reads as it did. -/
def fnParserWordSurvivesNestSpec : ChangeSpec := { name := "fnParserWordSurvivesNest", fn := fun _ => fun
  | [d1, d2, d3, d4, d5, d6] => { results := [.lit (.bool true)], args := [d1, d2, d3, d4, d5, d6] }
  | _ => none }
def fnParserWordSurvivesNestRow : OpenClaim := { program := "qxb6612281afmt", sum := "91a656f9ce3bb243bd584d1e6341bd2c68a15c7a07c577fd84f9b6a2ec64081a", func := "example.com/quillex/quillex/zzlaws_root_b1.FnParserWordSurvivesNest", spec := "fnParserWordSurvivesNest", stops := ["fmt.Sprintf"], inPlace := ["fmt.Sprintf", "internal/bytealg.Count", "internal/bytealg.IndexByte", "internal/bytealg.Index"], named := ["internal/bytealg.MaxLen"], apart := false }
/-- NO THEOREM (fmt's text is open here; it may be false): for the released tool's asking of the row's closed facts alone. THE STATEMENT IS 'FnParserWordSurvivesNestToldSaid' (Qxb6612281aFmtCards.lean). -/
def FnParserWordSurvivesNestFormAsk : Prop := fnParserWordSurvivesNestRow.holds Tryf.pinned (OpenSpec.ofChange fnParserWordSurvivesNestSpec)

/-- ITS FALSE NEIGHBOUR: 'it returns false'. Refute it at one input. -/
def fnParserWordSurvivesNestWrong : ChangeSpec := { name := "fnParserWordSurvivesNest", fn := fun _ => fun
  | [d1, d2, d3, d4, d5, d6] => { results := [.lit (.bool false)], args := [d1, d2, d3, d4, d5, d6] }
  | _ => none }
def FnParserWordSurvivesNestWrongFormAsk : Prop := fnParserWordSurvivesNestRow.holds Tryf.pinned (OpenSpec.ofChange fnParserWordSurvivesNestWrong)

/-- 'zzlaws_root_b1.FnParserNestScript': WHATEVER THE INPUT: true; the input reads as it did. -/
def fnParserNestScriptSpec : ChangeSpec := { name := "fnParserNestScript", fn := fun _ => fun
  | [d1, d2, d3, d4] => { results := [.lit (.bool true)], args := [d1, d2, d3, d4] }
  | _ => none }
def fnParserNestScriptRow : OpenClaim := { program := "qxb6612281afmt", sum := "91a656f9ce3bb243bd584d1e6341bd2c68a15c7a07c577fd84f9b6a2ec64081a", func := "example.com/quillex/quillex/zzlaws_root_b1.FnParserNestScript", spec := "fnParserNestScript", stops := ["fmt.Sprintf"], inPlace := ["fmt.Sprintf", "internal/bytealg.Count", "internal/bytealg.IndexByte", "internal/bytealg.Index"], named := ["internal/bytealg.MaxLen"], apart := false }
/-- NO THEOREM (fmt's text is open here; it may be false): for the released tool's asking of the row's closed facts alone. THE STATEMENT IS 'FnParserNestScriptToldSaid' (Qxb6612281aFmtCards.lean). -/
def FnParserNestScriptFormAsk : Prop := fnParserNestScriptRow.holds Tryf.pinned (OpenSpec.ofChange fnParserNestScriptSpec)

/-- ITS FALSE NEIGHBOUR: 'it returns false'. Refute it at one input. -/
def fnParserNestScriptWrong : ChangeSpec := { name := "fnParserNestScript", fn := fun _ => fun
  | [d1, d2, d3, d4] => { results := [.lit (.bool false)], args := [d1, d2, d3, d4] }
  | _ => none }
def FnParserNestScriptWrongFormAsk : Prop := fnParserNestScriptRow.holds Tryf.pinned (OpenSpec.ofChange fnParserNestScriptWrong)

end Rows
end Go.Proofs.Qxb6612281aFmt
