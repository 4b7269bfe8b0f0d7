/- FnBaseDecimal answers true at every int: its tied card. -/
import Derived.Test.YtkhgaenffnoimaaGreatDoorPB
namespace Go.Proofs.YtkhgaenffnoimaaGreatDoor
open Go
theorem fnBaseDecimal_card : Rows.FnBaseDecimalCardSaid :=
  Claim7.holds_tied_plain_at .later [] [.data, .data, .widerDeep, .widerDeep, .data, .data, .data, .data, .data, .data, .sentinel, .sentinel, .pinned, .pinned, .pinned, .pinned] true (true, "feced3cab88ef0fec9adc72d896e556bcedce435f2152df8077b76b3ff662587") true
    fnBaseDecimal_holds (fun _ h => by cases h) (by kernel_rfl) (fun _ h => by cases h) fnBaseDecimal_row_tie rfl ⟨rfl, rfl⟩ (by kernel_rfl) rfl
    (fun f fn hf hfn => by
      obtain rfl : f = 5 := Option.some.inj ((show Tryz.prog.funcNamed "pub-tallysheet/laws.FnBaseDecimal" = some 5 by kernel_rfl).symm.trans hf) |>.symm
      obtain rfl : fn = Tryz.f5 := (Option.some.inj (Tryz.func5.symm.trans hfn)).symm
      exact ⟨by kernel_rfl, fun j t ht => by
        rw [Tryz.params5] at ht
        have hm : t ∈ [3, 3] := by simpa using Array.mem_of_getElem? ht
        have hall : ([3, 3].all fun u => !Tryz.prog.wantsStandIn u) = true := by kernel_rfl
        exact (show Tryz.prog.wantsStandIn t = false by simpa using List.all_eq_true.1 hall t hm)⟩)
    (by kernel_rfl)
#print axioms fnBaseDecimal_card
end Go.Proofs.YtkhgaenffnoimaaGreatDoor
