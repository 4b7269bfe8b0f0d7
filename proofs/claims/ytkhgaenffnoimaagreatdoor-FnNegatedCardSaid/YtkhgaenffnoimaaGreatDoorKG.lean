/- The reader of a condition: its operator. -/
import Derived.Test.YtkhgaenffnoimaaGreatDoorKD
import Derived.Test.YtkhgaenffnoimaaGreatDoorNS
import Derived.Test.YtkhgaenffnoimaaGreatDoorKA
import Derived.Laws.EntriesVeiled
set_option linter.unusedSimpArgs false
set_option linter.unusedVariables false
namespace Go.Proofs.YtkhgaenffnoimaaGreatDoor
open Go.RowKit FL
attribute [local go_sem] run_store_float
def hasP (s p : ByteArray) : Bool := Lib.hasPrefix s.data.toList p.data.toList
theorem hasP_le (s p : ByteArray) (h : p.size ≤ s.size) : ((s.extract 0 p.size).toList == p.toList) = hasP s p := by
  unfold hasP Lib.hasPrefix
  rw [ByteArray.toList_eq, ByteArray.toList_eq, Bool.eq_iff_iff, beq_iff_eq, List.isPrefixOf_iff_prefix, List.prefix_iff_eq_take]
  have e : (s.extract 0 p.size).data.toList = s.data.toList.take p.data.toList.length := by
    rw [ByteArray.data_extract, Array.toList_extract]
    simp [List.extract]
  rw [e]
  exact eq_comm
theorem hasP_gt (s p : ByteArray) (h : ¬ p.size ≤ s.size) : hasP s p = false := by
  unfold hasP Lib.hasPrefix
  cases h2 : p.data.toList.isPrefixOf s.data.toList with
  | false => rfl
  | true =>
    have h3 := (List.isPrefixOf_iff_prefix.1 h2).length_le
    exact absurd (by simpa using h3) h
set_option maxRecDepth 100000 in
theorem c129 (b : Nat) (s p : ByteArray) (w : World) (hc : w.cell? ⟨b, 0, none⟩ = some (.string s)) :
    Calls Tryz.prog 129 #[.string p, .pointer (some ⟨b, 0, none⟩)] w (fun e w' => e = .returned (.bool (hasP s p)) ∧ w' = w) := by
  go_enter Tryz.func129, Tryz.ntmps129
  by_cases h : p.size ≤ s.size
  · have e := hasP_le s p h
    go_wp2_with fail
    (refine bodyPost_ret (v := .bool ((s.extract 0 p.size).toList == p.toList)) ?_ rfl ?_; (focus (first | (simp [results, Tryz.results129, go_sem, hc1, hz1]; done) | (simp [results, Tryz.results129, go_sem]; done) | (simp [results, Tryz.results129, go_sem, *]; done))); exact ⟨by rw [e], rfl⟩)
  · have e := hasP_gt s p h
    go_wp2_with fail
    (refine bodyPost_ret (v := .bool false) ?_ rfl ?_; (focus (first | (simp [results, Tryz.results129, go_sem, hc1, hz1]; done) | (simp [results, Tryz.results129, go_sem]; done) | (simp [results, Tryz.results129, go_sem, *]; done))); exact ⟨by rw [e], rfl⟩)
/-- A text s that is an operator's letters o and then num. -/
structure CT (s : ByteArray) (o : List UInt8) (num : ByteArray) : Prop where
  eq : s.data.toList = o ++ num.data.toList
  ext : s.extract o.length s.size = num
  size : s.size = o.length + num.size
theorem ct_mk (o : List UInt8) (num : ByteArray) : CT (⟨o.toArray⟩ ++ num) o num where
  eq := by simp [ByteArray.data_append]
  size := by rw [ByteArray.size_append]; show o.toArray.size + _ = _; simp
  ext := by
    apply ByteArray.ext
    apply Array.ext'
    rw [ByteArray.data_extract, Array.toList_extract]
    have e : (⟨o.toArray⟩ : ByteArray).size = o.length := by show o.toArray.size = _; simp
    simp [ByteArray.data_append, List.extract, e]
    exact List.take_of_length_le (by simp)
/-- The first letter of a number, and all its letters. -/
structure NumT (num : ByteArray) : Prop where
  head : ∃ c r, num.data.toList = c :: r ∧ c ≠ 61 ∧ c ≠ 62
  all : ∀ c, c ∈ num.data.toList → c ≠ 10 ∧ c ≠ 37
theorem dec_mem (n : Nat) : ∀ c, c ∈ dec n → 48 ≤ c.toNat ∧ c.toNat ≤ 57 := fun c hc => by
  rw [dec_ddg] at hc
  obtain ⟨d, hd, rfl⟩ := List.mem_map.1 hc
  have := ddg_lt n d hd
  rw [u8_48 d this]
  omega
theorem u8_ne {c d : UInt8} (h : c.toNat ≠ d.toNat) : c ≠ d := fun e => h (by rw [e])
theorem numT (k : Int) : NumT (plainS k) := by
  have hne : dec k.natAbs ≠ [] := fun h => by have := dec_len k.natAbs; rw [h] at this; simp at this
  have hall : ∀ c, c ∈ dec k.natAbs → c ≠ 10 ∧ c ≠ 37 ∧ c ≠ 61 ∧ c ≠ 62 := fun c hc => by
    have h := dec_mem _ c hc
    refine ⟨u8_ne ?_, u8_ne ?_, u8_ne ?_, u8_ne ?_⟩
    · show c.toNat ≠ 10; omega
    · show c.toNat ≠ 37; omega
    · show c.toNat ≠ 61; omega
    · show c.toNat ≠ 62; omega
  by_cases hn : k < 0
  · have e : (plainS k).data.toList = 45 :: dec k.natAbs := by rw [plainS_neg k hn]; rfl
    refine ⟨⟨45, _, e, by decide, by decide⟩, fun c hc => ?_⟩
    rw [e] at hc
    rcases List.mem_cons.1 hc with rfl | hc
    · decide
    · exact ⟨(hall c hc).1, (hall c hc).2.1⟩
  · have e : (plainS k).data.toList = dec k.natAbs := by rw [plainS_pos k hn]; rfl
    refine ⟨?_, fun c hc => ?_⟩
    · cases hd : dec k.natAbs with
      | nil => exact absurd hd hne
      | cons c r =>
        have := hall c (by rw [hd]; simp)
        exact ⟨c, r, by rw [e, hd], this.2.2.1, this.2.2.2⟩
    · rw [e] at hc
      exact ⟨(hall c hc).1, (hall c hc).2.1⟩
theorem hasP_of {s : ByteArray} {o : List UInt8} {num : ByteArray} (h : CT s o num) (p : ByteArray) : hasP s p = p.data.toList.isPrefixOf (o ++ num.data.toList) := by
  unfold hasP Lib.hasPrefix
  rw [h.eq]
end Go.Proofs.YtkhgaenffnoimaaGreatDoor
