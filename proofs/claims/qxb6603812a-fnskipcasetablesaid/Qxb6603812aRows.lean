/-
  No cell of these rows narrows 'for every input' (looked for: loops, veiled, ifaces, maps, wideKeys, modest, calm, conditions, laid).
  DERIVED. THE GIVEN ROWS OF THIS SEAT. 4 by the template 'for every input the law returns true; each argument reads behind the call as it read before'; 0 by the template 'total and deterministic' (their statements: Qxb6603812aTotals.lean).
  GIVEN WITH THE SEED: the statements are not yours to turn. If you find one false, say at which input.
  Laid BY PROGRAM, IN A SANDBOX (cutbox-rows.mjs): the forced cells as the released guide's own fill.sh prints them over the translation b7ccb70f63e8c5b8… (all of the seat's roots in one cut). By AI agents, Wed Nov 11 2026. No macro, syntax, notation, axiom, sorry.
-/
import Derived.Test.Qxb6603812aChecked
import GoSem.Claim
import GoSem.ClaimJoined
import GoSem.ClaimMapViews
import Derived.JoinedTies
import Derived.KernelRfl
namespace Go.Proofs.Qxb6603812a
/- THE CELL 'sum', in the pinned program and in every row, IS THE sha256 OF THE DUMP (.gsa) THAT Qxb6603812aProg.lean LOADS. Nothing in Lean hashes anything: it is a label: what it is worth is what the hold of that sum in a sandbox is worth. -/
noncomputable def Try.pinned : Pinned := { name := "qxb6603812a", sum := "b7ccb70f63e8c5b88f1e17207ca2175542ae3f0e278c7bab14ce55b237690347", checked := Try.checked }
namespace Rows
def none {H : Type} : Left H := { results := [], args := [] }

/-- 'zzlaws_internal_sqlparam_b1.FnContinuationReadsNothingBeforeItsIndex': WHATEVER THE INPUT: true; the input reads as it did. -/
def fnContinuationReadsNothingBeforeItsIndexSpec : ChangeSpec := { name := "fnContinuationReadsNothingBeforeItsIndex", fn := fun _ => fun
  | [d1, d2] => { results := [.lit (.bool true)], args := [d1, d2] }
  | _ => none }
def fnContinuationReadsNothingBeforeItsIndexRow : OpenClaim := { program := "qxb6603812a", sum := "b7ccb70f63e8c5b88f1e17207ca2175542ae3f0e278c7bab14ce55b237690347", func := "example.com/oncebound/oncebound/zzlaws_internal_sqlparam_b1.FnContinuationReadsNothingBeforeItsIndex", spec := "fnContinuationReadsNothingBeforeItsIndex", inPlace := ["internal/bytealg.IndexByteString", "internal/bytealg.IndexString"], named := ["internal/bytealg.MaxLen"], apart := false }
def FnContinuationReadsNothingBeforeItsIndexSaid : Prop := fnContinuationReadsNothingBeforeItsIndexRow.holds Try.pinned (OpenSpec.ofChange fnContinuationReadsNothingBeforeItsIndexSpec)

/-- ITS FALSE NEIGHBOUR: 'it returns false'. Refute it at one input. -/
def fnContinuationReadsNothingBeforeItsIndexWrong : ChangeSpec := { name := "fnContinuationReadsNothingBeforeItsIndex", fn := fun _ => fun
  | [d1, d2] => { results := [.lit (.bool false)], args := [d1, d2] }
  | _ => none }
def FnContinuationReadsNothingBeforeItsIndexWrongFalsely : Prop := fnContinuationReadsNothingBeforeItsIndexRow.holds Try.pinned (OpenSpec.ofChange fnContinuationReadsNothingBeforeItsIndexWrong)

/-- 'zzlaws_internal_sqlparam_b1.FnContinuationRefusesOrEndsAtAQuoteAfterABreak': WHATEVER THE INPUT: true; the input reads as it did. -/
def fnContinuationRefusesOrEndsAtAQuoteAfterABreakSpec : ChangeSpec := { name := "fnContinuationRefusesOrEndsAtAQuoteAfterABreak", fn := fun _ => fun
  | [d1, d2] => { results := [.lit (.bool true)], args := [d1, d2] }
  | _ => none }
def fnContinuationRefusesOrEndsAtAQuoteAfterABreakRow : OpenClaim := { program := "qxb6603812a", sum := "b7ccb70f63e8c5b88f1e17207ca2175542ae3f0e278c7bab14ce55b237690347", func := "example.com/oncebound/oncebound/zzlaws_internal_sqlparam_b1.FnContinuationRefusesOrEndsAtAQuoteAfterABreak", spec := "fnContinuationRefusesOrEndsAtAQuoteAfterABreak", inPlace := ["internal/bytealg.IndexByteString", "internal/bytealg.IndexString"], named := ["internal/bytealg.MaxLen"], apart := false }
def FnContinuationRefusesOrEndsAtAQuoteAfterABreakSaid : Prop := fnContinuationRefusesOrEndsAtAQuoteAfterABreakRow.holds Try.pinned (OpenSpec.ofChange fnContinuationRefusesOrEndsAtAQuoteAfterABreakSpec)

/-- ITS FALSE NEIGHBOUR: 'it returns false'. Refute it at one input. -/
def fnContinuationRefusesOrEndsAtAQuoteAfterABreakWrong : ChangeSpec := { name := "fnContinuationRefusesOrEndsAtAQuoteAfterABreak", fn := fun _ => fun
  | [d1, d2] => { results := [.lit (.bool false)], args := [d1, d2] }
  | _ => none }
def FnContinuationRefusesOrEndsAtAQuoteAfterABreakWrongFalsely : Prop := fnContinuationRefusesOrEndsAtAQuoteAfterABreakRow.holds Try.pinned (OpenSpec.ofChange fnContinuationRefusesOrEndsAtAQuoteAfterABreakWrong)

/-- 'zzlaws_internal_sqlparam_b1.FnSkipCaseTable': WHATEVER THE INPUT: true; the input reads as it did. -/
def fnSkipCaseTableSpec : ChangeSpec := { name := "fnSkipCaseTable", fn := fun _ => fun
  | [d1, d2, d3] => { results := [.lit (.bool true)], args := [d1, d2, d3] }
  | _ => none }
def fnSkipCaseTableRow : OpenClaim := { program := "qxb6603812a", sum := "b7ccb70f63e8c5b88f1e17207ca2175542ae3f0e278c7bab14ce55b237690347", func := "example.com/oncebound/oncebound/zzlaws_internal_sqlparam_b1.FnSkipCaseTable", spec := "fnSkipCaseTable", inPlace := ["internal/bytealg.IndexByteString", "internal/bytealg.IndexString"], named := ["internal/bytealg.MaxLen"], apart := false }
def FnSkipCaseTableSaid : Prop := fnSkipCaseTableRow.holds Try.pinned (OpenSpec.ofChange fnSkipCaseTableSpec)

/-- ITS FALSE NEIGHBOUR: 'it returns false'. Refute it at one input. -/
def fnSkipCaseTableWrong : ChangeSpec := { name := "fnSkipCaseTable", fn := fun _ => fun
  | [d1, d2, d3] => { results := [.lit (.bool false)], args := [d1, d2, d3] }
  | _ => none }
def FnSkipCaseTableWrongFalsely : Prop := fnSkipCaseTableRow.holds Try.pinned (OpenSpec.ofChange fnSkipCaseTableWrong)

/-- 'zzlaws_internal_sqlparam_b1.FnSkipReadsNothingBeforeTheByteBefore': WHATEVER THE INPUT: true; the input reads as it did. -/
def fnSkipReadsNothingBeforeTheByteBeforeSpec : ChangeSpec := { name := "fnSkipReadsNothingBeforeTheByteBefore", fn := fun _ => fun
  | [d1, d2, d3] => { results := [.lit (.bool true)], args := [d1, d2, d3] }
  | _ => none }
def fnSkipReadsNothingBeforeTheByteBeforeRow : OpenClaim := { program := "qxb6603812a", sum := "b7ccb70f63e8c5b88f1e17207ca2175542ae3f0e278c7bab14ce55b237690347", func := "example.com/oncebound/oncebound/zzlaws_internal_sqlparam_b1.FnSkipReadsNothingBeforeTheByteBefore", spec := "fnSkipReadsNothingBeforeTheByteBefore", inPlace := ["internal/bytealg.IndexByteString", "internal/bytealg.IndexString"], named := ["internal/bytealg.MaxLen"], apart := false }
def FnSkipReadsNothingBeforeTheByteBeforeSaid : Prop := fnSkipReadsNothingBeforeTheByteBeforeRow.holds Try.pinned (OpenSpec.ofChange fnSkipReadsNothingBeforeTheByteBeforeSpec)

/-- ITS FALSE NEIGHBOUR: 'it returns false'. Refute it at one input. -/
def fnSkipReadsNothingBeforeTheByteBeforeWrong : ChangeSpec := { name := "fnSkipReadsNothingBeforeTheByteBefore", fn := fun _ => fun
  | [d1, d2, d3] => { results := [.lit (.bool false)], args := [d1, d2, d3] }
  | _ => none }
def FnSkipReadsNothingBeforeTheByteBeforeWrongFalsely : Prop := fnSkipReadsNothingBeforeTheByteBeforeRow.holds Try.pinned (OpenSpec.ofChange fnSkipReadsNothingBeforeTheByteBeforeWrong)

end Rows
end Go.Proofs.Qxb6603812a
