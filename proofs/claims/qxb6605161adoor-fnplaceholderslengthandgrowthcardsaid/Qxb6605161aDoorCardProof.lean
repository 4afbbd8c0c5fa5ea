/- The tied card of FnPlaceholdersLengthAndGrowth: the row, proved; the given tie; the builder's one call. -/
import Derived.Test.Qxb6605161aDoorProofs
import Derived.Test.Qxb6605161aDoorTie
import Derived.Test.Qxb6605161aDoorCards
import Derived.SevenTiedAt
namespace Go.Proofs.Qxb6605161aDoor
open Go

theorem fnPlaceholdersLengthAndGrowthCard_proved : Rows.FnPlaceholdersLengthAndGrowthCardSaid :=
  Claim7.holds_tied_plain_at .later [] [.data, .data, .data] true (true, "a33bdd52dcdc41ea9483af0ff9483fa8b5cd3042271a3fc0072bba13872be848") false
    row_holds (fun _ h => by cases h) (by kernel_rfl) (fun _ h => by cases h) fnPlaceholdersLengthAndGrowth_row_tie rfl ⟨rfl, rfl⟩ (by kernel_rfl) rfl
    (fun f fn hf hfn => by
      obtain rfl : f = 3 := Option.some.inj ((show Tryd.prog.funcNamed Rows.fnPlaceholdersLengthAndGrowthRow.func = some 3 by kernel_rfl).symm.trans hf) |>.symm
      obtain rfl : fn = Tryd.f3 := (Option.some.inj (Tryd.func3.symm.trans hfn)).symm
      exact ⟨by kernel_rfl, fun j t ht => by
        rw [Tryd.params3] at ht
        have hm : t ∈ [3, 9] := by simpa using Array.mem_of_getElem? ht
        have hall : ([3, 9].all fun u => !Tryd.prog.wantsStandIn u) = true := by kernel_rfl
        exact (show Tryd.prog.wantsStandIn t = false by simpa using List.all_eq_true.1 hall t hm)⟩)
    (by kernel_rfl)
end Go.Proofs.Qxb6605161aDoor
