/- FnBaseDecimal: the row. -/
import Derived.Test.YtkhgaenffnoimaaGreatDoorRows
import Derived.Test.YtkhgaenffnoimaaGreatDoorCards
import Derived.Test.YtkhgaenffnoimaaGreatDoorTie
import Derived.Test.YtkhgaenffnoimaaGreatDoorNC
import Derived.Test.YtkhgaenffnoimaaGreatDoorTD
import Derived.ProofKit
import Derived.Lay
import Derived.LaidOnce
import Derived.SevenTiedAt
namespace Go.Proofs.YtkhgaenffnoimaaGreatDoor
open Go.ChangeShapes Go.WideShapes Go.ChangeAt Go.RowKit
open Go.ChangeMaps (open_string shut_string)
theorem ownTryzB : ownKnob Tryz.prog.godebug = none := by kernel_rfl
set_option maxRecDepth 100000 in
theorem fnBaseDecimal_lifted (os : Os) (started : os.Started) (H : Type) (enc : TypeId × Value → H) :
    ReturnsInHanded {} Tryz.checked os 5 .any (fun w args => (Rows.fnBaseDecimalSpec.pre enc Tryz.prog Tryz.f5 [] false w args ∧ laidMetH Tryz.prog Rows.fnBaseDecimalRow.laid w) ∧ sizedMet enc Tryz.prog Tryz.f5 (OpenSpec.ofChange Rows.fnBaseDecimalSpec) false w args)
      (Rows.fnBaseDecimalSpec.post enc Tryz.prog Tryz.f5 false true false false) := by
  refine returnsInHanded_of_change_and (C := Tryz.checked) (X := fun w _ => laidMetH Tryz.prog Rows.fnBaseDecimalRow.laid w) (fun _ _ _ hh h => h.of_heap hh) ownTryzB started (by kernel_rfl) Tryz.func5
    (ChangeSpec.witness_shaped (enc := enc) (C := Tryz.checked) (os := os) (X := fun w _ => laidMetH Tryz.prog Rows.fnBaseDecimalRow.laid w) false (World.laidAll Tryz.prog os Rows.fnBaseDecimalRow.laid) #[.int .i64 0, .int .i64 0] 8 (World.laidAll_os _ _ _)
      (World.shaped_of_ZipB (by kernel_rfl) (by kernel_rfl)) (by kernel_rfl) (by kernel_rfl) (by kernel_rfl)
      (by rw [MakeChecks.laidMetH_plain _ _ _ (by kernel_rfl)]; exact laidMet_laidAll _ (by kernel_rfl) (by kernel_rfl))) ?_
  intro W base args ds gs before hval0 hW _ _ hL _
  have hval : ∀ (j : Nat) t v, Tryz.f5.params[j]? = some t → args[j]? = some v → Value.okWide Tryz.prog W .any base t v := hval0
  have hW' := hW
  obtain ⟨p, q, hA0, hV, rfl, _, _⟩ := hW
  have hA : DataW.TrodAll enc Tryz.prog W 0 (fun _ => true) true Tryz.f5.params.toList args.toList ds p := hA0
  rw [Tryz.params5] at hA hval
  obtain ⟨v0, v1, d0, d1, p0, p1, rfl, rfl, rfl, h0, h1⟩ := trodAll_two hA
  obtain ⟨rfl, rfl⟩ := trodVars_none hV
  obtain ⟨x, rfl, rfl, rfl, wx⟩ := open_int Tryz.underlying3 (hval 0 3 v0 rfl rfl) h0
  obtain ⟨y, rfl, rfl, rfl, wy⟩ := open_int Tryz.underlying3 (hval 1 3 v1 rfl rfl) h1
  simp only [List.append_nil] at hW'
  obtain ⟨hT, hT4⟩ := tab_of_laid hL
  refine (c5 x y W (int64_of_wf wx).1 (int64_of_wf wx).2 (int64_of_wf wy).1 (int64_of_wf wy).2 hT hT4).mono fun e W' ⟨he, hb⟩ => ?_
  subst he
  exact ⟨_, rfl, _, _, _, [], [], [], hW', trodAll_mk1 (shut_bool Tryz.underlying4 _), trodAll_mk2 (shut_int Tryz.underlying3 wx) (shut_int Tryz.underlying3 wy), rfl, hb.frame _, fun h => by cases h⟩
theorem fnBaseDecimal_holds : Rows.FnBaseDecimalSaid :=
  OpenClaim.holds_of_wide 5 Tryz.f5 rfl rfl rfl rfl rfl rfl rfl ⟨rfl, rfl, rfl, rfl, rfl⟩ rfl rfl rfl rfl rfl (by kernel_rfl) Tryz.func5 (by kernel_rfl)
    (of_decide_eq_true (by kernel_rfl)) (by unfold Func.isWrapper; first | (rw [if_pos (by decide +kernel)]; kernel_rfl) | (rw [if_neg (by decide +kernel)]; exact ⟨rfl, rfl⟩))
    (fun os started H enc _ => fnBaseDecimal_lifted os started H enc)
end Go.Proofs.YtkhgaenffnoimaaGreatDoor
