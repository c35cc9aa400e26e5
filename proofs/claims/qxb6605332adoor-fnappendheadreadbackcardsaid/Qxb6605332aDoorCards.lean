/-
  DERIVED. GIVEN WITH THE SEED: THE CARDS: each row of Qxb6605332aDoorRows.lean that lists a variable, with what it lists TIED to the program's text (the seventh form; the later family's looks); each row that meets fmt, with fmt's text TOLD by the authors' own Lean function (tested against real Go, not proved from fmt's source: count such statements apart). THE CARD IS WHAT COUNTS. Prove the row's statement (the work); the ties are given (Qxb6605332aDoorTie.lean); close each card by the builder's one call (the guide's Derived/Test/ToyasCard.lean, 'card_holds'). Laid BY PROGRAM, IN A SANDBOX (cutbox-door.mjs). By AI agents, Wed Nov 11 2026. No macro, syntax, notation, axiom, sorry.
-/
import Derived.Test.Qxb6605332aDoorRows
import GoSem.ClaimSeven
namespace Go.Proofs.Qxb6605332aDoor
namespace Rows

/-- THE TIED CARD OF 'zzlaws_internal_httpd_b1.FnStatusTextDistinctAndLineSafe'. -/
def fnStatusTextDistinctAndLineSafeCard : Claim7 := { stood := { row := fnStatusTextDistinctAndLineSafeRow, standIns := [], harness := (true, "6df76547a8e4b4c30e8af2c5678eadafbbfe633aaa24ab6885d3941ffed3e7c1"), looks := false }, kinds := [], alts := [], laidByText := true, laidKinds := [.data, .data, .data], laidTests := true, laidLooks := .later }
def FnStatusTextDistinctAndLineSafeCardSaid : Prop := Claim7.holds Tryd.pinned (.plain (OpenSpec.ofChange fnStatusTextDistinctAndLineSafeSpec)) fnStatusTextDistinctAndLineSafeCard

/-- THE TIED CARD OF 'zzlaws_internal_httpd_b1.FnAppendHeadReadBack'. -/
def fnAppendHeadReadBackCard : Claim7 := { stood := { row := fnAppendHeadReadBackRow, standIns := [], harness := (true, "6df76547a8e4b4c30e8af2c5678eadafbbfe633aaa24ab6885d3941ffed3e7c1"), looks := false }, kinds := [], alts := [], laidByText := true, laidKinds := [.data, .data, .data], laidTests := true, laidLooks := .later }
def FnAppendHeadReadBackCardSaid : Prop := Claim7.holds Tryd.pinned (.plain (OpenSpec.ofChange fnAppendHeadReadBackSpec)) fnAppendHeadReadBackCard
end Rows
end Go.Proofs.Qxb6605332aDoor
