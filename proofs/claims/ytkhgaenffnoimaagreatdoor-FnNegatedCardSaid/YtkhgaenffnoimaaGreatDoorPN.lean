/- FnNegated: the row. -/
import Derived.Test.YtkhgaenffnoimaaGreatDoorRows
import Derived.Test.YtkhgaenffnoimaaGreatDoorCards
import Derived.Test.YtkhgaenffnoimaaGreatDoorTie
import Derived.Test.YtkhgaenffnoimaaGreatDoorKV
import Derived.Test.YtkhgaenffnoimaaGreatDoorTN
import Derived.ProofKit
import Derived.Lay
import Derived.LaidOnce
import Derived.SevenTiedAt
import Derived.SliceStrings
import Derived.Carry
import Derived.Lib.ItoaMem
namespace Go.Proofs.YtkhgaenffnoimaaGreatDoor
open Go.ChangeShapes Go.WideShapes Go.ChangeAt Go.RowKit
open Go.ChangeMaps (open_string shut_string)
theorem cell_ltN {w : World} {x o : Nat} {v : Value} (h : w.cell? ⟨x, o, none⟩ = some v) : x < w.heap.size := by
  obtain ⟨c, e, f, hc⟩ := cell_heap h
  exact (Array.getElem?_eq_some_iff.1 hc).1
theorem laidOutN : laidOutB Tryz.prog = true := by kernel_rfl
theorem cells3N : Tryz.prog.cellsOf 3 = 1 := by kernel_rfl
/-- A slice of ints that came in, nil or not, as the walk wants it. -/
theorem open_argN {H : Type} {enc : TypeId × Value → H} {W : World} {a0 : Option Addr} {len cap fuel : Nat} {x : DataW H × List MemPlace}
    (hf : DataW.trod enc Tryz.prog W 0 (fun _ => true) true fuel 22 [.slice a0 len cap] = some x) :
    ∃ ks : List Int, ks.length = len ∧ IRw W a0 ks ∧ len ≤ maxLen := by
  rcases open_ints Tryz.underlying22 Tryz.underlying3 cells3N hf with ⟨hcs, hx⟩ | ⟨a, len', cap', zs, hcs, _, hl, hm, hz, hx, hcell, _⟩
  · simp at hcs
    obtain ⟨rfl, rfl, rfl⟩ := hcs
    exact ⟨[], rfl, .inl rfl, Nat.zero_le _⟩
  · simp at hcs
    obtain ⟨rfl, rfl, rfl⟩ := hcs
    simp only [if_true] at hz
    obtain ⟨b, off, spot⟩ := a
    have htl : (zs.take len).length = len := by rw [List.length_take]; omega
    refine ⟨zs.take len, htl, ?_, by omega⟩
    rcases Nat.eq_zero_or_pos len with h0 | h0
    · exact .inl (List.eq_nil_of_length_eq_zero (by omega))
    · have hspot : spot = none := by simpa [Addr.add] using World.cell?_spot (hcell 0 (by omega))
      subst hspot
      refine .inr ⟨b, off, rfl, cell_ltN (by have := hcell 0 (by omega); rw [Lib.add_plain] at this; exact this), fun j s hj => ?_⟩
      have hjl : j < len := by
        have := (List.getElem?_eq_some_iff.1 hj).1
        omega
      have hs : zs.getD j 0 = s := by
        rw [List.getElem?_take_of_lt hjl] at hj
        simp [List.getD, hj]
      have h2 := hcell j (by omega)
      rw [Lib.add_plain, hs] at h2
      exact h2
theorem ownTryzN : ownKnob Tryz.prog.godebug = none := by kernel_rfl
set_option maxRecDepth 100000 in
theorem fnNegated_lifted (os : Os) (started : os.Started) (H : Type) (enc : TypeId × Value → H) :
    ReturnsInHanded {} Tryz.checked os 4 .any (fun w args => (Rows.fnNegatedSpec.pre enc Tryz.prog Tryz.f4 [] false w args ∧ laidMetH Tryz.prog Rows.fnNegatedRow.laid w) ∧ sizedMet enc Tryz.prog Tryz.f4 (OpenSpec.ofChange Rows.fnNegatedSpec) false w args)
      (Rows.fnNegatedSpec.post enc Tryz.prog Tryz.f4 false true false false) := by
  refine returnsInHanded_of_change_and (C := Tryz.checked) (X := fun w _ => laidMetH Tryz.prog Rows.fnNegatedRow.laid w) (fun _ _ _ hh h => h.of_heap hh) ownTryzN started (by kernel_rfl) Tryz.func4
    (ChangeSpec.witness_shaped (enc := enc) (C := Tryz.checked) (os := os) (X := fun w _ => laidMetH Tryz.prog Rows.fnNegatedRow.laid w) false (World.laidAll Tryz.prog os Rows.fnNegatedRow.laid) #[.slice none 0 0, .int .i64 0, .int .i64 0] 8 (World.laidAll_os _ _ _)
      (World.shaped_of_ZipB (by kernel_rfl) (by kernel_rfl)) (by kernel_rfl) (by kernel_rfl) (by kernel_rfl)
      (by rw [MakeChecks.laidMetH_plain _ _ _ (by kernel_rfl)]; exact laidMet_laidAll _ (by kernel_rfl) (by kernel_rfl))) ?_
  intro W base args ds gs before hval0 hW _ _ hL _
  have hval : ∀ (j : Nat) t v, Tryz.f4.params[j]? = some t → args[j]? = some v → Value.okWide Tryz.prog W .any base t v := hval0
  have hW' := hW
  obtain ⟨p, q, hA0, hV, rfl, _, _⟩ := hW
  have hA : DataW.TrodAll enc Tryz.prog W 0 (fun _ => true) true Tryz.f4.params.toList args.toList ds p := hA0
  rw [Tryz.params4] at hA hval
  obtain ⟨v0, v1, v2, d0, d1, d2, p0, p1, p2, rfl, rfl, rfl, h0, h1, h2⟩ := trodAll_three hA
  obtain ⟨rfl, rfl⟩ := trodVars_none hV
  obtain ⟨a0, len, cap, rfl⟩ := okWide_slice Tryz.underlying22 (hval 0 22 v0 rfl rfl)
  obtain ⟨x, rfl, rfl, rfl, wx⟩ := open_int Tryz.underlying3 (hval 1 3 v1 rfl rfl) h1
  obtain ⟨y, rfl, rfl, rfl, wy⟩ := open_int Tryz.underlying3 (hval 2 3 v2 rfl rfl) h2
  have h0k := h0
  obtain ⟨fuel, hf⟩ := h0
  simp only [List.append_nil] at hW'
  have hlt : ∀ x ∈ p0, x.block < W.heap.size := fun x hx => by simpa using hW'.lt x hx
  obtain ⟨ks, hl, hrow, hm⟩ := open_argN hf
  subst hl
  refine (c4 ks x y a0 cap W (by unfold maxLen at hm; omega) hrow (ft_of_laid hL) (tabs_of_laid hL)).mono fun e W' ⟨he, hb⟩ => ?_
  subst he
  refine ⟨_, rfl, _, _, _, [], p0, [], hW', trodAll_mk1 (shut_bool Tryz.underlying4 _), ?_, rfl, hb.frame _, fun h => by cases h⟩
  have hk := trodAll_mk3 (Below.trod laidOutN (by kernel_rfl) (of_decide_eq_true (by kernel_rfl)) h0k hb hlt) (shut_int Tryz.underlying3 wx) (shut_int Tryz.underlying3 wy)
  simp only [List.append_nil] at hk
  exact hk
theorem fnNegated_holds : Rows.FnNegatedSaid :=
  OpenClaim.holds_of_wide 4 Tryz.f4 rfl rfl rfl rfl rfl rfl rfl ⟨rfl, rfl, rfl, rfl, rfl⟩ rfl rfl rfl rfl rfl (by kernel_rfl) Tryz.func4 (by kernel_rfl)
    (of_decide_eq_true (by kernel_rfl)) (by unfold Func.isWrapper; first | (rw [if_pos (by decide +kernel)]; kernel_rfl) | (rw [if_neg (by decide +kernel)]; exact ⟨rfl, rfl⟩))
    (fun os started H enc _ => fnNegated_lifted os started H enc)
end Go.Proofs.YtkhgaenffnoimaaGreatDoor
