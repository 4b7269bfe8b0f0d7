/- FnLenNumber answers true at every int: its tied card. -/
import Derived.Test.YtpahhejkpdkjmaaGreatDoorPN
namespace Go.Proofs.YtpahhejkpdkjmaaGreatDoor
open Go
theorem fnLenNumber_card : Rows.FnLenNumberCardSaid :=
  Claim7.holds_tied_plain_at .later [] [.data, .data, .data, .data, .pinned, .pinned] true (true, "ccc26d35027aab49348878ce9158c8337856293861b55dd406e860162d13e29f") true
    fnLenNumber_holds (fun _ h => by cases h) (by kernel_rfl) (fun _ h => by cases h) fnLenNumber_row_tie rfl ⟨rfl, rfl⟩ (by kernel_rfl) rfl
    (fun f fn hf hfn => by
      obtain rfl : f = 5 := Option.some.inj ((show Tryz.prog.funcNamed "pub-tallysheet/laws.FnLenNumber" = some 5 by kernel_rfl).symm.trans hf) |>.symm
      obtain rfl : fn = Tryz.f5 := (Option.some.inj (Tryz.func5.symm.trans hfn)).symm
      exact ⟨by kernel_rfl, fun j t ht => by
        rw [Tryz.params5] at ht
        have hm : t ∈ [3] := by simpa using Array.mem_of_getElem? ht
        have hall : ([3].all fun u => !Tryz.prog.wantsStandIn u) = true := by kernel_rfl
        exact (show Tryz.prog.wantsStandIn t = false by simpa using List.all_eq_true.1 hall t hm)⟩)
    (by kernel_rfl)
#print axioms fnLenNumber_card
end Go.Proofs.YtpahhejkpdkjmaaGreatDoor
