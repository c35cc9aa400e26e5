import Derived.Test.Qxb6605332aDoorRowProof
import Derived.Test.Qxb6605332aDoorCards
import Derived.Test.Qxb6605332aDoorTie
import Derived.SevenTiedAt
namespace Go.Proofs.Qxb6605332aDoor.fnAppendHeadReadBack
open Go

theorem no25 : Tryd.prog.wantsStandIn 25 = false := by kernel_rfl
theorem no3 : Tryd.prog.wantsStandIn 3 = false := by kernel_rfl
theorem no9 : Tryd.prog.wantsStandIn 9 = false := by kernel_rfl
theorem no26 : Tryd.prog.wantsStandIn 26 = false := by kernel_rfl
theorem no4 : Tryd.prog.wantsStandIn 4 = false := by kernel_rfl

theorem proved : Rows.FnAppendHeadReadBackCardSaid :=
  Claim7.holds_tied_plain_at .later [] [.data, .data, .data] true (true, "6df76547a8e4b4c30e8af2c5678eadafbbfe633aaa24ab6885d3941ffed3e7c1") false
    over (fun _ h => by cases h) (by kernel_rfl) (fun _ h => by cases h) fnAppendHeadReadBack_row_tie rfl ⟨rfl, rfl⟩ (by kernel_rfl) rfl
    (fun f fn hf hfn => by
      obtain rfl : f = 4 := Option.some.inj ((show Tryd.prog.funcNamed "example.com/swarmwell/swarmwell/zzlaws_internal_httpd_b1.FnAppendHeadReadBack" = some 4 by kernel_rfl).symm.trans hf) |>.symm
      obtain rfl : fn = Tryd.f4 := (Option.some.inj (Tryd.func4.symm.trans hfn)).symm
      exact ⟨by kernel_rfl, fun j t ht => by
        rw [Tryd.params4] at ht
        have hm : t ∈ [25, 3, 9, 26, 25, 4, 4, 25] := by
          have := Array.mem_of_getElem? ht
          simpa using this
        simp only [List.mem_cons, List.not_mem_nil, or_false] at hm
        rcases hm with rfl | rfl | rfl | rfl | rfl | rfl | rfl | rfl
        · exact no25
        · exact no3
        · exact no9
        · exact no26
        · exact no25
        · exact no4
        · exact no4
        · exact no25⟩)
    (by kernel_rfl)
#print axioms proved
end Go.Proofs.Qxb6605332aDoor.fnAppendHeadReadBack
