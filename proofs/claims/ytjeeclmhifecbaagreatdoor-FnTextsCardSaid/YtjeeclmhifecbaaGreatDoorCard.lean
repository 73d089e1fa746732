/-
  The tied card of laws.FnTexts: for every value the law returns true and leaves its argument as it was. Conditions: those that the card prints (the listed tables of Go's library, tied to the program's text; the form's own reach).
-/
import Derived.Test.YtjeeclmhifecbaaGreatDoorHolds
import Derived.Test.YtjeeclmhifecbaaGreatDoorTie
import Derived.Test.YtjeeclmhifecbaaGreatDoorCards
namespace Go.Proofs.YtjeeclmhifecbaaGreatDoor
open Go
theorem fnTexts_holds : Rows.FnTextsCardSaid :=
  Claim7.holds_tied_plain_at .later [] [.data, .data, .data, .data, .data, .pinned, .pinned, .pinned, .pinned, .pinned, .pinned, .pinned, .pinned] true (true, "76a5161fdf517ecdae3b7d0bc1c95c20c2a501bb1b20e2c834787f45ec6bf564") true fnTexts_row (fun _ h => by cases h) (by kernel_rfl) (fun _ h => by cases h) fnTexts_row_tie rfl ⟨rfl, rfl⟩ (by kernel_rfl) rfl
    (fun f fn hf hfn => by
      obtain rfl : f = 3 := Option.some.inj ((show Tryz.prog.funcNamed Rows.fnTextsRow.func = some 3 by kernel_rfl).symm.trans hf) |>.symm
      obtain rfl : fn = Tryz.f3 := (Option.some.inj (Tryz.func3.symm.trans hfn)).symm
      exact ⟨by kernel_rfl, fun j t ht => by
        rw [Tryz.params3] at ht
        have hm : t ∈ [25] := by simpa using Array.mem_of_getElem? ht
        have hall : ([25].all fun u => !Tryz.prog.wantsStandIn u) = true := by kernel_rfl
        exact (show Tryz.prog.wantsStandIn t = false by simpa using List.all_eq_true.1 hall t hm)⟩)
    (by kernel_rfl)
#print axioms fnTexts_holds
end Go.Proofs.YtjeeclmhifecbaaGreatDoor
