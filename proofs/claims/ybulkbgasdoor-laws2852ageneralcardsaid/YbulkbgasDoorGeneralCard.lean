import Derived.Test.YbulkbgasDoorGeneralRow
import Derived.Test.YbulkbgasDoorCards
import Derived.Test.YbulkbgasDoorTie
import Derived.SevenTiedAt
namespace Go.Proofs.YbulkbgasDoor
open Go

theorem general_card : Rows.LawS2852AGeneralCardSaid :=
  Claim7.holds_tied_plain_at .later [] [.widerDeep, .calledDeep] true (true, "cecd88b21bd477f282d55d03ea355fffc0bf4ca660b6c9c08628d7300a18a2e7") true
    general_row (fun _ h => by cases h) (by kernel_rfl) (fun _ h => by cases h) lawS2852AGeneral_row_tie rfl ⟨rfl, rfl⟩ (by kernel_rfl) rfl
    (fun f fn hf hfn => by
      obtain rfl : f = 3 := Option.some.inj ((show Ybad.prog.funcNamed "example.com/interleave/interleave.LawS2852AGeneral" = some 3 by kernel_rfl).symm.trans hf) |>.symm
      obtain rfl : fn = Ybad.f3 := (Option.some.inj (Ybad.func3.symm.trans hfn)).symm
      exact ⟨by kernel_rfl, fun j t ht => by
        rw [Ybad.params3] at ht
        have hm : t ∈ [22] := by simpa using Array.mem_of_getElem? ht
        have hall : ([22].all fun u => !Ybad.prog.wantsStandIn u) = true := by kernel_rfl
        exact (show Ybad.prog.wantsStandIn t = false by simpa using List.all_eq_true.1 hall t hm)⟩)
    (by kernel_rfl)

end Go.Proofs.YbulkbgasDoor
