/- FnTypes's card holds: for every text and every number the call returns true; what it lists is tied to the program's text. -/
import Derived.Test.YtgaaehpmbkjhlaaGreatDoorTypesProof
import Derived.Test.YtgaaehpmbkjhlaaGreatDoorTie
import Derived.Test.YtgaaehpmbkjhlaaGreatDoorCards
import Derived.SevenTiedAt
namespace Go.Proofs.YtgaaehpmbkjhlaaGreatDoor
open Go

theorem fnTypes_card : Rows.FnTypesCardSaid :=
  Claim7.holds_tied_plain_at .later [] [.data, .data, .widerDeep, .widerDeep, .data, .data, .data, .data, .data, .sentinel, .sentinel, .sentinel, .sentinel, .sentinel, .sentinel, .sentinel, .sentinel, .sentinel, .sentinel, .sentinel, .sentinel, .sentinel, .sentinel, .sentinel, .sentinel, .sentinel, .sentinel, .pinned, .pinned] true (true, "6561a7a18ea2a07cf4afdb8dc88f6900e09fcbee2f89921e347865e40952a629") true
    fnTypes_holds (fun _ h => by cases h) (by kernel_rfl) (fun _ h => by cases h) fnTypes_row_tie rfl ⟨rfl, rfl⟩ (by kernel_rfl) rfl
    (fun f fn hf hfn => by
      obtain rfl : f = 5 := Option.some.inj ((show Tryz.prog.funcNamed "loop.example/pub-g03071/laws.FnTypes" = some 5 by kernel_rfl).symm.trans hf) |>.symm
      obtain rfl : fn = Tryz.f5 := (Option.some.inj (Tryz.func5.symm.trans hfn)).symm
      exact ⟨by kernel_rfl, fun j t ht => by
        rw [Tryz.params5] at ht
        have hm : t ∈ [9, 2] := by simpa using Array.mem_of_getElem? ht
        have hall : ([9, 2].all fun u => !Tryz.prog.wantsStandIn u) = true := by kernel_rfl
        exact (show Tryz.prog.wantsStandIn t = false by simpa using List.all_eq_true.1 hall t hm)⟩)
    (by kernel_rfl)
#print axioms fnTypes_card
end Go.Proofs.YtgaaehpmbkjhlaaGreatDoor
