/- FormatFloat of a whole number. -/
import Derived.Test.YtkhgaenffnoimaaGreatDoorK8
set_option linter.unusedSimpArgs false
set_option linter.unusedVariables false
namespace Go.Proofs.YtkhgaenffnoimaaGreatDoor
open Go.RowKit
attribute [local go_sem] run_store_float
set_option maxRecDepth 100000 in
set_option maxHeartbeats 1000000 in
theorem c138 (b : Nat) (l : List UInt8) (w : World) (h0 : l ≠ []) (hl6 : l.length ≤ 100)
    (H : ∀ v W, Own w W 5 1 v [] → Below w.heap.size w W → Calls Tryz.prog 163 #[v, .float .f64 b, .int .u8 103, .int .i64 (-1)] W (fun e w' => ∃ v1, e = .returned v1 ∧ Own w w' 5 1 v1 (rowsB l) ∧ Below w.heap.size w w')) :
    Calls Tryz.prog 138 #[.float .f64 b, .int .u8 103, .int .i64 (-1), .int .i64 64] w (Ret w (.string ⟨l.toArray⟩)) := by
  have HH := Lib.hid H
  clear H
  obtain ⟨i0, hi, hzz⟩ := Option.map_eq_some_iff.1 info5
  simp only [Prod.mk.injEq] at hzz
  obtain ⟨hz0, hz1, hz2⟩ := hzz
  obtain ⟨wm, hmk, hown, hg⟩ := run_make_own w w.heap.size 147 5 i0 (.int .u8 0) 1 under147 hi hz0 hz1 .i64 .i64 24 (by rw [hz2]; decide) (by decide) (Nat.le_refl _)
  have hbm : Below w.heap.size w wm := (Below.refl w.heap.size w).grown hg (Nat.le_refl _) (fun k hk => by cases hk)
  have hmk' : (Instr.makeSlice 147 (.int .i64 0) (.int .i64 24)).run Tryz.prog w = .ok (.slice (some ⟨w.heap.size, 0, none⟩) 0 24) wm := hmk
  have HO : Hid (Own w wm 5 1 (.slice (some ⟨w.heap.size, 0, none⟩) 0 24) []) := Lib.hid ⟨hown, fun c h => (nomatch h)⟩
  have hmax : max (3 : Int) 24 = 24 := by decide
  clear hmk hown hg hi hz0 hz1 hz2
  go_enter Tryz.func138, Tryz.ntmps138
  go_wp2_with fail
  refine (HH.out _ wm HO.out hbm).mono ?_
  rintro e w2 ⟨v1, rfl, ho, hb2⟩
  obtain ⟨A, c, rfl, hrow⟩ := ho.row
  have hconv : (convert 147 9 (.slice A (rowsB l).length c)).run Tryz.prog w2 = .ok (.string ⟨l.toArray⟩) w2 := by
    rcases hrow with h | ⟨g, rfl, hg, hc⟩
    · have h2 := congrArg List.length h
      rw [rowsB_len] at h2
      exact absurd (List.eq_nil_of_length_eq_zero h2) h0
    · rw [rowsB_len]
      exact run_convert_bytes_back (P := Tryz.prog) w2 147 9 5 ⟨g, 0, none⟩ c l under147 Tryz.underlying5 Tryz.underlying9 (fun j hj => by
        have h := hc j [Value.int .u8 (l[j].toNat : Int)] (by unfold rowsB; rw [List.getElem?_map, List.getElem?_eq_getElem hj]; rfl) 0 _ rfl
        rw [addr0]
        simpa using h)
  clear hrow ho HH HO
  go_wp2_with fail
  go_ret
  exact ret_mk hb2
set_option maxRecDepth 100000 in
set_option maxHeartbeats 1000000 in
theorem c111' (b : Nat) (S : ByteArray) (w : World) (H : Calls Tryz.prog 138 #[.float .f64 b, .int .u8 103, .int .i64 (-1), .int .i64 64] w (Ret w (.string S))) :
    Calls Tryz.prog 111 #[.float .f64 b, .int .u8 103, .int .i64 (-1), .int .i64 64] w (Ret w (.string S)) := by
  have HH := Lib.hid H
  clear H
  go_enter Tryz.func111, Tryz.ntmps111
  go_wp2_with fail
  refine HH.out.mono ?_
  rintro e w2 ⟨rfl, hb⟩
  go_wp2_with fail
  go_ret
  exact ret_mk hb
/-- The tables of the library that a number's text asks for. -/
structure Tabs (w : World) : Prop where
  pow : PowTab w
  tab : Lib.TabIs Tryz.prog w "internal/strconv.uint64pow10" .u64 Lib.pow10Tab
theorem Tabs.below {w w1 : World} {B : Nat} (h : Tabs w) (hb : Below B w w1) (h4 : 18 < B) : Tabs w1 := ⟨h.pow.below hb h4, tabIs_below h.tab hb h4⟩
theorem plainS_neg (k : Int) (h : k < 0) : plainS k = ⟨([45] ++ dec k.natAbs).toArray⟩ := by
  unfold plainS decS
  rw [if_pos h]
  apply ByteArray.ext
  simp [ByteArray.data_append]
theorem plainS_pos (k : Int) (h : ¬ k < 0) : plainS k = ⟨([] ++ dec k.natAbs).toArray⟩ := by
  unfold plainS decS
  rw [if_neg h]
  rfl
/-- FormatFloat(k, 'g', -1, 64): the whole number as it is written. -/
theorem c111 (k : Int) (w : World) (hk : k.natAbs < 1000000) (hT : Tabs w) :
    Calls Tryz.prog 111 #[.float .f64 (floatOfInt FloatKind.f64 k), .int .u8 103, .int .i64 (-1), .int .i64 64] w (Ret w (.string (plainS k))) := by
  refine c111' _ _ w ?_
  have h4 : 18 < w.heap.size := hT.pow.1
  have hdl : (dec k.natAbs).length ≤ 6 := by rw [dec_nDigits]; exact nDigits_le6 _ hk
  have hdp : 1 ≤ (dec k.natAbs).length := dec_len _
  by_cases h0 : k = 0
  · subst h0
    have e : ([] ++ dec (0 : Int).natAbs : List UInt8) = [48] := by
      show dec 0 = [48]
      rw [dec]
      rfl
    rw [plainS_pos 0 (by decide), foi0, e]
    exact c138 0 _ w (by simp) (by simp) fun v W2 ho hb => c163z w v W2 ho hb
  · obtain ⟨L, M, hL, hk0, hk1, hM, hM0, hM1, hbits⟩ := foi_bits k h0 hk
    rw [hbits]
    by_cases hn : k < 0
    · rw [plainS_neg k hn, if_pos hn]
      refine c138 _ _ w (fun h => by simp at h) (by simp; omega) fun v W2 ho hb => ?_
      have hT2 := hT.below hb h4
      obtain ⟨B, hB⟩ : ∃ B, B = 9223372036854775808 + ((L + 1022) * 4503599627370496 + M) := ⟨_, rfl⟩
      rw [← hB]
      refine c163p w v B (L + 3071) (M - 4503599627370496) L M k.natAbs W2 ho hb hT2.pow h4 hT2.tab (by omega) (by omega) (by omega) ?_ ?_ ?_ hL hk0 hk1 hk hM hM0 hM1
      · rw [and_mask11 _ (by omega)]; omega
      · rw [and_mask52 _ (by omega)]; omega
      · rw [or_bit52 _ (by omega)]; omega
    · rw [plainS_pos k hn, if_neg hn]
      refine c138 _ _ w (fun h => by have := congrArg List.length h; simp at this; simp [this] at hdp) (by simp; omega) fun v W2 ho hb => ?_
      have hT2 := hT.below hb h4
      obtain ⟨B, hB⟩ : ∃ B, B = 0 + ((L + 1022) * 4503599627370496 + M) := ⟨_, rfl⟩
      rw [← hB]
      refine c163n w v B (L + 1023) (M - 4503599627370496) L M k.natAbs W2 ho hb hT2.pow h4 hT2.tab (by omega) (by omega) (by omega) ?_ ?_ ?_ hL hk0 hk1 hk hM hM0 hM1
      · rw [and_mask11 _ (by omega)]; omega
      · rw [and_mask52 _ (by omega)]; omega
      · rw [or_bit52 _ (by omega)]; omega
end Go.Proofs.YtkhgaenffnoimaaGreatDoor
