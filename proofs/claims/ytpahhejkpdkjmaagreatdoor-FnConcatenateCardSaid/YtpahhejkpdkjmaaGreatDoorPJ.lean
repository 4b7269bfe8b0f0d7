/- FnConcatenate: the row and the card. -/
import Derived.Test.YtpahhejkpdkjmaaGreatDoorRows
import Derived.Test.YtpahhejkpdkjmaaGreatDoorCards
import Derived.Test.YtpahhejkpdkjmaaGreatDoorTie
import Derived.Test.YtpahhejkpdkjmaaGreatDoorLJ
import Derived.ProofKit
import Derived.Lay
import Derived.LaidOnce
import Derived.SevenTiedAt
import Derived.SliceStrings
import Derived.Carry
import Derived.Lib.ItoaMem
namespace Go.Proofs.YtpahhejkpdkjmaaGreatDoor
open Go.ChangeShapes Go.WideShapes Go.ChangeAt Go.RowKit
open Go.ChangeMaps (open_string shut_string)
theorem cell_ltJ {w : World} {x o : Nat} {v : Value} (h : w.cell? ⟨x, o, none⟩ = some v) : x < w.heap.size := by
  obtain ⟨c, e, f, hc⟩ := cell_heap h
  exact (Array.getElem?_eq_some_iff.1 hc).1
theorem laidOutJ : laidOutB Tryz.prog = true := by kernel_rfl
theorem cells9J : Tryz.prog.cellsOf 9 = 1 := by kernel_rfl
/-- A slice of texts that came in, nil or not, as the walk wants it. -/
theorem open_argJ {H : Type} {enc : TypeId × Value → H} {W : World} {a0 : Option Addr} {len cap fuel : Nat} {x : DataW H × List MemPlace}
    (hf : DataW.trod enc Tryz.prog W 0 (fun _ => true) true fuel 34 [.slice a0 len cap] = some x) :
    ∃ ss : List ByteArray, ss.length = len ∧ TRow W a0 ss ∧ len ≤ maxLen := by
  rcases open_strings Tryz.underlying34 Tryz.underlying9 cells9J hf with ⟨hcs, hx⟩ | ⟨a, len', cap', ss, hcs, _, hl, hm, hz, hx, hcell, _⟩
  · simp at hcs
    obtain ⟨rfl, rfl, rfl⟩ := hcs
    exact ⟨[], rfl, .inl rfl, Nat.zero_le _⟩
  · simp at hcs
    obtain ⟨rfl, rfl, rfl⟩ := hcs
    simp only [if_true] at hz
    obtain ⟨b, off, spot⟩ := a
    have htl : (ss.take len).length = len := by rw [List.length_take]; omega
    refine ⟨ss.take len, htl, ?_, by omega⟩
    rcases Nat.eq_zero_or_pos len with h0 | h0
    · exact .inl (List.eq_nil_of_length_eq_zero (by omega))
    · have hspot : spot = none := by simpa [Addr.add] using World.cell?_spot (hcell 0 (by omega))
      subst hspot
      refine .inr ⟨b, off, rfl, cell_ltJ (by have := hcell 0 (by omega); rw [Lib.add_plain] at this; exact this), fun j s hj => ?_⟩
      have hjl : j < len := by
        have := (List.getElem?_eq_some_iff.1 hj).1
        omega
      have hs : ss.getD j ByteArray.empty = s := by
        rw [List.getElem?_take_of_lt hjl] at hj
        simp [List.getD, hj]
      have h2 := hcell j (by omega)
      rw [Lib.add_plain, hs] at h2
      exact h2
theorem ownTryzJ : ownKnob Tryz.prog.godebug = none := by kernel_rfl
set_option maxRecDepth 100000 in
theorem fnConcatenate_lifted (os : Os) (started : os.Started) (H : Type) (enc : TypeId × Value → H) :
    ReturnsInHanded {} Tryz.checked os 6 .any (fun w args => (Rows.fnConcatenateSpec.pre enc Tryz.prog Tryz.f6 [] false w args ∧ laidMetH Tryz.prog Rows.fnConcatenateRow.laid w) ∧ sizedMet enc Tryz.prog Tryz.f6 (OpenSpec.ofChange Rows.fnConcatenateSpec) false w args)
      (Rows.fnConcatenateSpec.post enc Tryz.prog Tryz.f6 false true false false) := by
  refine returnsInHanded_of_change_and (C := Tryz.checked) (X := fun w _ => laidMetH Tryz.prog Rows.fnConcatenateRow.laid w) (fun _ _ _ hh h => h.of_heap hh) ownTryzJ started (by kernel_rfl) Tryz.func6
    (ChangeSpec.witness_shaped (enc := enc) (C := Tryz.checked) (os := os) (X := fun w _ => laidMetH Tryz.prog Rows.fnConcatenateRow.laid w) false (World.laidAll Tryz.prog os Rows.fnConcatenateRow.laid) #[.slice none 0 0] 8 (World.laidAll_os _ _ _)
      (World.shaped_of_ZipB (by kernel_rfl) (by kernel_rfl)) (by kernel_rfl) (by kernel_rfl) (by kernel_rfl)
      (by rw [MakeChecks.laidMetH_plain _ _ _ (by kernel_rfl)]; exact laidMet_laidAll _ (by kernel_rfl) (by kernel_rfl))) ?_
  intro W base args ds gs before hval0 hW _ _ hL _
  have hval : ∀ (j : Nat) t v, Tryz.f6.params[j]? = some t → args[j]? = some v → Value.okWide Tryz.prog W .any base t v := hval0
  have hW' := hW
  obtain ⟨p, q, hA0, hV, rfl, _, _⟩ := hW
  have hA : DataW.TrodAll enc Tryz.prog W 0 (fun _ => true) true Tryz.f6.params.toList args.toList ds p := hA0
  rw [Tryz.params6] at hA hval
  obtain ⟨v0, d0, rfl, rfl, h0⟩ := trodAll_one hA
  obtain ⟨rfl, rfl⟩ := trodVars_none hV
  obtain ⟨a0, len, cap, rfl⟩ := okWide_slice Tryz.underlying34 (hval 0 34 v0 rfl rfl)
  have h0k := h0
  obtain ⟨fuel, hf⟩ := h0
  simp only [List.append_nil] at hW'
  have hlt : ∀ x ∈ p, x.block < W.heap.size := fun x hx => by simpa using hW'.lt x hx
  obtain ⟨ss, hl, hrow, hm⟩ := open_argJ hf
  subst hl
  refine (c6 ss a0 cap W (by unfold maxLen at hm; omega) hrow).mono fun e W' ⟨he, hb⟩ => ?_
  subst he
  exact ⟨_, rfl, _, _, _, [], p, [], hW', trodAll_mk1 (shut_bool Tryz.underlying4 _), trodAll_mk1 (Below.trod laidOutJ (by kernel_rfl) (of_decide_eq_true (by kernel_rfl)) h0k hb hlt), rfl, hb.frame _, fun h => by cases h⟩
theorem fnConcatenate_holds : Rows.FnConcatenateSaid :=
  OpenClaim.holds_of_wide 6 Tryz.f6 rfl rfl rfl rfl rfl rfl rfl ⟨rfl, rfl, rfl, rfl, rfl⟩ rfl rfl rfl rfl rfl (by kernel_rfl) Tryz.func6 (by kernel_rfl)
    (of_decide_eq_true (by kernel_rfl)) (by unfold Func.isWrapper; first | (rw [if_pos (by decide +kernel)]; kernel_rfl) | (rw [if_neg (by decide +kernel)]; exact ⟨rfl, rfl⟩))
    (fun os started H enc _ => fnConcatenate_lifted os started H enc)
end Go.Proofs.YtpahhejkpdkjmaaGreatDoor
