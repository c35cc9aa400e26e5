import Derived.Test.Qxb6606379aDoorRowProof
import Derived.Test.Qxb6606379aDoorCards
import Derived.Test.Qxb6606379aDoorTie
import Derived.SevenTiedAt
namespace Go.Proofs.Qxb6606379aDoor.fnBlockCommentNestingEndsNoEarlier
open Go

theorem no21 : Tryd.prog.wantsStandIn 21 = false := by kernel_rfl
theorem no22 : Tryd.prog.wantsStandIn 22 = false := by kernel_rfl
theorem no9 : Tryd.prog.wantsStandIn 9 = false := by kernel_rfl
theorem no5 : Tryd.prog.wantsStandIn 5 = false := by kernel_rfl
theorem no4 : Tryd.prog.wantsStandIn 4 = false := by kernel_rfl
theorem no3 : Tryd.prog.wantsStandIn 3 = false := by kernel_rfl

theorem proved : Rows.FnBlockCommentNestingEndsNoEarlierCardSaid :=
  Claim7.holds_tied_plain_at .later [] [.data, .data, .data, .sentinel, .sentinel] true (true, "d59fe24195ba4645d71e437d6487607b711fd06f38e94e7b9717499f54e7632e") true
    over (fun _ h => by cases h) (by kernel_rfl) (fun _ h => by cases h) fnBlockCommentNestingEndsNoEarlier_row_tie rfl ⟨rfl, rfl⟩ (by kernel_rfl) rfl
    (fun f fn hf hfn => by
      obtain rfl : f = 3 := Option.some.inj ((show Tryd.prog.funcNamed "example.com/txscope/txscope/zzlaws_internal_engine_b1.FnBlockCommentNestingEndsNoEarlier" = some 3 by kernel_rfl).symm.trans hf) |>.symm
      obtain rfl : fn = Tryd.f3 := (Option.some.inj (Tryd.func3.symm.trans hfn)).symm
      exact ⟨by kernel_rfl, fun j t ht => by
        rw [Tryd.params3] at ht
        have hm : t ∈ [21, 22, 9, 5, 4, 3, 4, 9] := by
          have := Array.mem_of_getElem? ht
          simpa using this
        simp only [List.mem_cons, List.not_mem_nil, or_false] at hm
        rcases hm with rfl | rfl | rfl | rfl | rfl | rfl | rfl | rfl
        · exact no21
        · exact no22
        · exact no9
        · exact no5
        · exact no4
        · exact no3
        · exact no4
        · exact no9⟩)
    (by kernel_rfl)
#print axioms proved
end Go.Proofs.Qxb6606379aDoor.fnBlockCommentNestingEndsNoEarlier
