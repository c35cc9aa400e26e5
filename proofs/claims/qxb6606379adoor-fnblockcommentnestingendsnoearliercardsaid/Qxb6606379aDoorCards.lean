/-
  DERIVED. GIVEN WITH THE SEED: THE CARDS: each row of Qxb6606379aDoorRows.lean that lists a variable, with what it lists TIED to the program's text (the seventh form; the later family's looks); each row that meets fmt, with fmt's text TOLD by the authors' own Lean function (tested against real Go, not proved from fmt's source: count such statements apart). THE CARD IS WHAT COUNTS. Prove the row's statement (the work); the ties are given (Qxb6606379aDoorTie.lean); close each card by the builder's one call (the guide's Derived/Test/ToyasCard.lean, 'card_holds'). Laid BY PROGRAM, IN A SANDBOX (cutbox-door.mjs). By AI agents, Wed Nov 11 2026. No macro, syntax, notation, axiom, sorry.
-/
import Derived.Test.Qxb6606379aDoorRows
import GoSem.ClaimSeven
namespace Go.Proofs.Qxb6606379aDoor
namespace Rows

/-- THE TIED CARD OF 'zzlaws_internal_engine_b1.FnBlockCommentNestingEndsNoEarlier'. -/
def fnBlockCommentNestingEndsNoEarlierCard : Claim7 := { stood := { row := fnBlockCommentNestingEndsNoEarlierRow, standIns := [], harness := (true, "d59fe24195ba4645d71e437d6487607b711fd06f38e94e7b9717499f54e7632e"), looks := true }, kinds := [], alts := [], laidByText := true, laidKinds := [.data, .data, .data, .sentinel, .sentinel], laidTests := true, laidLooks := .later }
def FnBlockCommentNestingEndsNoEarlierCardSaid : Prop := Claim7.holds Tryd.pinned (.plain (OpenSpec.ofChange fnBlockCommentNestingEndsNoEarlierSpec)) fnBlockCommentNestingEndsNoEarlierCard

/-- THE TIED CARD OF 'zzlaws_internal_engine_b1.FnReservedWordIgnoresASCIICase'. -/
def fnReservedWordIgnoresASCIICaseCard : Claim7 := { stood := { row := fnReservedWordIgnoresASCIICaseRow, standIns := [], harness := (true, "d59fe24195ba4645d71e437d6487607b711fd06f38e94e7b9717499f54e7632e"), looks := true }, kinds := [], alts := [], laidByText := true, laidKinds := [.data, .pinned, .pinned], laidTests := true, laidLooks := .later }
def FnReservedWordIgnoresASCIICaseCardSaid : Prop := Claim7.holds Tryd.pinned (.plain (OpenSpec.ofChange fnReservedWordIgnoresASCIICaseSpec)) fnReservedWordIgnoresASCIICaseCard

/-- THE TIED CARD OF 'zzlaws_internal_engine_b1.FnReservedWordOnlyShortPlainWords'. -/
def fnReservedWordOnlyShortPlainWordsCard : Claim7 := { stood := { row := fnReservedWordOnlyShortPlainWordsRow, standIns := [], harness := (true, "d59fe24195ba4645d71e437d6487607b711fd06f38e94e7b9717499f54e7632e"), looks := true }, kinds := [], alts := [], laidByText := true, laidKinds := [.data, .pinned, .pinned], laidTests := true, laidLooks := .later }
def FnReservedWordOnlyShortPlainWordsCardSaid : Prop := Claim7.holds Tryd.pinned (.plain (OpenSpec.ofChange fnReservedWordOnlyShortPlainWordsSpec)) fnReservedWordOnlyShortPlainWordsCard
end Rows
end Go.Proofs.Qxb6606379aDoor
