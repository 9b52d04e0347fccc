/-
  THE STATEMENT 'Rows.FnFormulaWriteIgnoresPrefixAndSharingCardSaid': the tied card, out of the row and the given tie.
-/
import Derived.Test.Qxb6601988aDoorRowProof
import Derived.Test.Qxb6601988aDoorTie
import Derived.Test.Qxb6601988aDoorCards
import Derived.SevenTiedAt
namespace Go.Proofs.Qxb6601988aDoor.fnFormulaWriteIgnoresPrefixAndSharing
open Go

theorem proved : Rows.FnFormulaWriteIgnoresPrefixAndSharingCardSaid :=
  Claim7.holds_tied_plain_at .later [] [.data, .data, .data] true (true, "fb6f2b674aea569e02090026e2f5ee1ae98273d2f0fc79db7b03e3622b397642") false
    row_holds (fun _ h => by cases h) (by kernel_rfl) (fun _ h => by cases h) fnFormulaWriteIgnoresPrefixAndSharing_row_tie rfl ⟨rfl, rfl⟩ (by kernel_rfl) rfl
    (fun f fn hf hfn => by
      obtain rfl : f = 3 := Option.some.inj ((show Tryd.prog.funcNamed Rows.fnFormulaWriteIgnoresPrefixAndSharingRow.func = some 3 by kernel_rfl).symm.trans hf) |>.symm
      obtain rfl : fn = Tryd.f3 := (Option.some.inj (Tryd.func3.symm.trans hfn)).symm
      exact ⟨by kernel_rfl, fun j t ht => by
        rw [Tryd.params3] at ht
        have hm : t ∈ [26, 9] := by simpa using Array.mem_of_getElem? ht
        have hall : ([26, 9].all fun u => !Tryd.prog.wantsStandIn u) = true := by kernel_rfl
        exact (show Tryd.prog.wantsStandIn t = false by simpa using List.all_eq_true.1 hall t hm)⟩)
    (by kernel_rfl)
end Go.Proofs.Qxb6601988aDoor.fnFormulaWriteIgnoresPrefixAndSharing
