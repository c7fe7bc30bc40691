/-
  THE TIED CARD 'Rows.LawS4914AHeaderCardSaid': the row, closed by the builder's one call over the given tie. After the guide's MapyCard.
-/
import Derived.Test.YbulkcwtaDoorRow
import Derived.Test.YbulkcwtaDoorTie
import Derived.Test.YbulkcwtaDoorCards
import Derived.SevenTiedAt
namespace Go.Proofs.YbulkcwtaDoor.lawS4914AHeader
open Go

theorem fnamed : Ybad.prog.funcNamed Rows.lawS4914AHeaderRow.func = some 3 := by kernel_rfl

theorem proved : Rows.LawS4914AHeaderCardSaid :=
  Claim7.holds_tied_plain_at .later [] [.data, .data, .data] true Rows.lawS4914AHeaderCard.stood.harness false
    row_holds (fun _ h => by cases h) (by kernel_rfl) (fun _ h => by cases h) lawS4914AHeader_row_tie rfl ⟨rfl, rfl⟩ (by kernel_rfl) rfl
    (fun f fn hf hfn => by
      obtain rfl : f = 3 := Option.some.inj (fnamed.symm.trans hf) |>.symm
      obtain rfl : fn = Ybad.f3 := (Option.some.inj (Ybad.func3.symm.trans hfn)).symm
      exact ⟨by kernel_rfl, fun j t ht => by
        rw [Ybad.params3] at ht
        have hm : t ∈ [22, 9, 5, 5, 4, 4, 5, 23, 4, 3] := by simpa using Array.mem_of_getElem? ht
        have hall : ([22, 9, 5, 5, 4, 4, 5, 23, 4, 3].all fun u => !Ybad.prog.wantsStandIn u) = true := by kernel_rfl
        exact (show Ybad.prog.wantsStandIn t = false by simpa using List.all_eq_true.1 hall t hm)⟩)
    (by kernel_rfl)
end Go.Proofs.YbulkcwtaDoor.lawS4914AHeader
