import Derived.Test.Qxb6612937aDoorB
import Derived.Test.Qxb6612937aDoorTie
import Derived.Test.Qxb6612937aDoorCards
import Derived.SevenTiedAt
namespace Go.Proofs.Qxb6612937aDoor
open Go

/-- The tied card: the law's row, its one listed variable tied to the program's text. -/
theorem fnOperationStringNamesEachOperationOnceCard_proved : Rows.FnOperationStringNamesEachOperationOnceCardSaid :=
  Claim7.holds_tied_plain_at .later [] [.wider] true (true, "473d5c1123a0c118c675c7628ccfdefd0342ea4222b39766dc73234f01df6dc9") false
    over (fun _ h => by cases h) (by kernel_rfl) (fun _ h => by cases h) fnOperationStringNamesEachOperationOnce_row_tie rfl ⟨rfl, rfl⟩ (by kernel_rfl) rfl
    (fun f fn hf hfn => by
      obtain rfl : f = 3 := Option.some.inj ((show Tryd.prog.funcNamed Rows.fnOperationStringNamesEachOperationOnceRow.func = some 3 by kernel_rfl).symm.trans hf) |>.symm
      obtain rfl : fn = Tryd.f3 := (Option.some.inj (Tryd.func3.symm.trans hfn)).symm
      exact ⟨by kernel_rfl, fun j t ht => by
        rw [Tryd.params3] at ht
        have hm : t ∈ [5, 5] := by simpa using Array.mem_of_getElem? ht
        have hall : ([5, 5].all fun u => !Tryd.prog.wantsStandIn u) = true := by kernel_rfl
        exact (show Tryd.prog.wantsStandIn t = false by simpa using List.all_eq_true.1 hall t hm)⟩)
    (by kernel_rfl)
end Go.Proofs.Qxb6612937aDoor
