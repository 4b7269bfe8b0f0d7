/- FnExact: the row and the card. -/
import Derived.Test.YtpahhejkpdkjmaaGreatDoorRows
import Derived.Test.YtpahhejkpdkjmaaGreatDoorCards
import Derived.Test.YtpahhejkpdkjmaaGreatDoorTie
import Derived.Test.YtpahhejkpdkjmaaGreatDoorL1
import Derived.ProofKit
import Derived.Lay
import Derived.LaidOnce
import Derived.SevenTiedAt
namespace Go.Proofs.YtpahhejkpdkjmaaGreatDoor
open Go.ChangeShapes Go.WideShapes Go.ChangeAt Go.RowKit
open Go.ChangeMaps (open_string shut_string)
theorem ownTryz : ownKnob Tryz.prog.godebug = none := by kernel_rfl
set_option maxRecDepth 100000 in
theorem fnExact_lifted (os : Os) (started : os.Started) (H : Type) (enc : TypeId × Value → H) :
    ReturnsInHanded {} Tryz.checked os 3 .any (fun w args => (Rows.fnExactSpec.pre enc Tryz.prog Tryz.f3 [] false w args ∧ laidMetH Tryz.prog Rows.fnExactRow.laid w) ∧ sizedMet enc Tryz.prog Tryz.f3 (OpenSpec.ofChange Rows.fnExactSpec) false w args)
      (Rows.fnExactSpec.post enc Tryz.prog Tryz.f3 false true false false) := by
  refine returnsInHanded_of_change_and (C := Tryz.checked) (X := fun w _ => laidMetH Tryz.prog Rows.fnExactRow.laid w) (fun _ _ _ hh h => h.of_heap hh) ownTryz started (by kernel_rfl) Tryz.func3
    (ChangeSpec.witness_shaped (enc := enc) (C := Tryz.checked) (os := os) (X := fun w _ => laidMetH Tryz.prog Rows.fnExactRow.laid w) false (World.laidAll Tryz.prog os Rows.fnExactRow.laid) #[.string ⟨#[]⟩, .string ⟨#[]⟩] 8 (World.laidAll_os _ _ _)
      (World.shaped_of_ZipB (by kernel_rfl) (by kernel_rfl)) (by kernel_rfl) (by kernel_rfl) (by kernel_rfl)
      (by rw [MakeChecks.laidMetH_plain _ _ _ (by kernel_rfl)]; exact laidMet_laidAll _ (by kernel_rfl) (by kernel_rfl))) ?_
  intro W base args ds gs before hval0 hW _ _ hL _
  have hval : ∀ (j : Nat) t v, Tryz.f3.params[j]? = some t → args[j]? = some v → Value.okWide Tryz.prog W .any base t v := hval0
  have hW' := hW
  obtain ⟨p, q, hA0, hV, rfl, _, _⟩ := hW
  have hA : DataW.TrodAll enc Tryz.prog W 0 (fun _ => true) true Tryz.f3.params.toList args.toList ds p := hA0
  rw [Tryz.params3] at hA hval
  obtain ⟨v0, v1, d0, d1, p0, p1, rfl, rfl, rfl, h0, h1⟩ := trodAll_two hA
  obtain ⟨rfl, rfl⟩ := trodVars_none hV
  obtain ⟨s, rfl, rfl, rfl, hs⟩ := open_string Tryz.underlying9 (hval 0 9 v0 rfl rfl) h0
  obtain ⟨t, rfl, rfl, rfl, ht⟩ := open_string Tryz.underlying9 (hval 1 9 v1 rfl rfl) h1
  simp only [List.append_nil] at hW'
  refine (c3 s t W).mono fun e W' ⟨he, hb⟩ => ?_
  subst he
  exact ⟨_, rfl, _, _, _, [], [], [], hW', trodAll_mk1 (shut_bool Tryz.underlying4 _), trodAll_mk2 (shut_string Tryz.underlying9 hs) (shut_string Tryz.underlying9 ht), rfl, hb.frame _, fun h => by cases h⟩
theorem fnExact_holds : Rows.FnExactSaid :=
  OpenClaim.holds_of_wide 3 Tryz.f3 rfl rfl rfl rfl rfl rfl rfl ⟨rfl, rfl, rfl, rfl, rfl⟩ rfl rfl rfl rfl rfl (by kernel_rfl) Tryz.func3 (by kernel_rfl)
    (of_decide_eq_true (by kernel_rfl)) (by unfold Func.isWrapper; first | (rw [if_pos (by decide +kernel)]; kernel_rfl) | (rw [if_neg (by decide +kernel)]; exact ⟨rfl, rfl⟩))
    (fun os started H enc _ => fnExact_lifted os started H enc)
end Go.Proofs.YtpahhejkpdkjmaaGreatDoor
