/-
  THE TIED CARD OF 'zzlaws_internal_resp_b1.FnBulkHeaderReadsBackByParseInteger': the row (Qxb6600527aDoorProof.lean) and the given tie (Qxb6600527aDoorTie.lean), closed by the builder's one call.
-/
import Derived.Test.Qxb6600527aDoorProof
import Derived.Test.Qxb6600527aDoorTie
import Derived.Test.Qxb6600527aDoorCards
import Derived.SevenTiedAt
namespace Go.Proofs.Qxb6600527aDoor
open Go

theorem bulkHeaderCard : Rows.FnBulkHeaderReadsBackByParseIntegerCardSaid :=
  Claim7.holds_tied_plain_at .later [] [.data, .data, .data, .sentinel, .sentinel] true (true, "b612551a32a55fbc77d06f550ee4e7e3aa1cb4e6e25c132483dda79ff1b5483d") true
    row_holds (fun _ h => by cases h) (by kernel_rfl) (fun _ h => by cases h) fnBulkHeaderReadsBackByParseInteger_row_tie rfl ⟨rfl, rfl⟩ (by kernel_rfl) rfl
    (fun f fn hf hfn => by
      obtain rfl : f = 5 := Option.some.inj ((show Tryd.prog.funcNamed Rows.fnBulkHeaderReadsBackByParseIntegerRow.func = some 5 by kernel_rfl).symm.trans hf) |>.symm
      obtain rfl : fn = Tryd.f5 := (Option.some.inj (Tryd.func5.symm.trans hfn)).symm
      exact ⟨by kernel_rfl, fun j t ht => by
        rw [Tryd.params5] at ht
        have hm : t ∈ [24] := by simpa using Array.mem_of_getElem? ht
        have hall : ([24].all fun u => !Tryd.prog.wantsStandIn u) = true := by kernel_rfl
        exact (show Tryd.prog.wantsStandIn t = false by simpa using List.all_eq_true.1 hall t hm)⟩)
    (by kernel_rfl)
end Go.Proofs.Qxb6600527aDoor
