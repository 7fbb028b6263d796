import Derived.Test.Qxb6609544aDoorTie
import Derived.Test.Qxb6609544aDoorCards
import Derived.SevenTiedAt
namespace Go.Proofs.Qxb6609544aDoor.fnNewListsAgreesWithWith
open Go

theorem card (holds : Rows.FnNewListsAgreesWithWithSaid) : Rows.FnNewListsAgreesWithWithCardSaid :=
  Claim7.holds_tied_plain_at .later [] [.called, .zero] true (true, "530557e517d668005acbdcb70e8b7827b6231977fde6abf6170b851619305959") false holds (fun _ h => by cases h) (by kernel_rfl) (fun _ h => by cases h) fnNewListsAgreesWithWith_row_tie rfl ⟨rfl, rfl⟩ (by kernel_rfl) rfl
    (fun f fn hf hfn => by
      obtain rfl : f = 4 := Option.some.inj ((show Tryd.prog.funcNamed "example.com/tidewall/tidewall/zzlaws_pkg_iplist_b1.FnNewListsAgreesWithWith" = some 4 by kernel_rfl).symm.trans hf) |>.symm
      obtain rfl : fn = Tryd.f4 := (Option.some.inj (Tryd.func4.symm.trans hfn)).symm
      exact ⟨by kernel_rfl, fun j t ht => by
        rw [Tryd.params4] at ht
        have hm : t ∈ [22, 22] := by simpa using Array.mem_of_getElem? ht
        have hall : ([22, 22].all fun u => !Tryd.prog.wantsStandIn u) = true := by kernel_rfl
        exact (show Tryd.prog.wantsStandIn t = false by simpa using List.all_eq_true.1 hall t hm)⟩)
    (by kernel_rfl)
end Go.Proofs.Qxb6609544aDoor.fnNewListsAgreesWithWith
