/- FnNegated answers true at every list of ints and two ints: its tied card. -/
import Derived.Test.YtkhgaenffnoimaaGreatDoorPN
namespace Go.Proofs.YtkhgaenffnoimaaGreatDoor
open Go
theorem fnNegated_card : Rows.FnNegatedCardSaid :=
  Claim7.holds_tied_plain_at .later [] [.data, .data, .widerDeep, .widerDeep, .data, .data, .data, .data, .data, .data, .sentinel, .sentinel, .data, .data, .pinned, .pinned, .pinned, .pinned] true (true, "feced3cab88ef0fec9adc72d896e556bcedce435f2152df8077b76b3ff662587") true
    fnNegated_holds (fun _ h => by cases h) (by kernel_rfl) (fun _ h => by cases h) fnNegated_row_tie rfl ⟨rfl, rfl⟩ (by kernel_rfl) rfl
    (fun f fn hf hfn => by
      obtain rfl : f = 4 := Option.some.inj ((show Tryz.prog.funcNamed "pub-tallysheet/laws.FnNegated" = some 4 by kernel_rfl).symm.trans hf) |>.symm
      obtain rfl : fn = Tryz.f4 := (Option.some.inj (Tryz.func4.symm.trans hfn)).symm
      exact ⟨by kernel_rfl, fun j t ht => by
        rw [Tryz.params4] at ht
        have hm : t ∈ [22, 3, 3] := by simpa using Array.mem_of_getElem? ht
        have hall : ([22, 3, 3].all fun u => !Tryz.prog.wantsStandIn u) = true := by kernel_rfl
        exact (show Tryz.prog.wantsStandIn t = false by simpa using List.all_eq_true.1 hall t hm)⟩)
    (by kernel_rfl)
#print axioms fnNegated_card
end Go.Proofs.YtkhgaenffnoimaaGreatDoor
