/- FormatFloat of a whole number. -/
import Derived.Test.YtpahhejkpdkjmaaGreatDoorSJ
import Derived.Test.YtpahhejkpdkjmaaGreatDoorI1
set_option linter.unusedSimpArgs false
set_option linter.unusedVariables false
namespace Go.Proofs.YtpahhejkpdkjmaaGreatDoor
open Go.RowKit
attribute [local go_sem] run_store_float
theorem bs_list : ∀ (ys : List (List Value)), BS ys → ∃ l : List UInt8, ys = l.map (fun b => [Value.int .u8 (b.toNat : Int)]) ∧ ∀ b, b ∈ l → b.toNat < 128
  | [], _ => ⟨[], rfl, fun b h => (nomatch h)⟩
  | y :: ys, h => by
    obtain ⟨l, hl, hb⟩ := bs_list ys (fun z hz => h z (List.mem_cons_of_mem _ hz))
    obtain ⟨x, hx, rfl⟩ := h y (List.mem_cons_self ..)
    refine ⟨UInt8.ofNat x :: l, ?_, ?_⟩
    · rw [List.map_cons, hl]
      have : (UInt8.ofNat x).toNat = x := by rw [UInt8.toNat_ofNat']; omega
      rw [this]
    · intro b hbm
      rcases List.mem_cons.1 hbm with rfl | hbm
      · rw [UInt8.toNat_ofNat']; omega
      · exact hb b hbm
/-- A text of ASCII alone. -/
def Asc (s : ByteArray) : Prop := ∀ i (h : i < s.size), (s[i]'h).toNat < 128
theorem asc_list (l : List UInt8) (h : ∀ b, b ∈ l → b.toNat < 128) : Asc ⟨l.toArray⟩ := fun i hi => by
  have hl : i < l.length := by simpa [ByteArray.size] using hi
  have : (⟨l.toArray⟩ : ByteArray)[i]'hi = l[i] := rfl
  rw [this]
  exact h _ (List.getElem_mem hl)
set_option maxRecDepth 100000 in
set_option maxHeartbeats 1000000 in
theorem c219 (b Lz : Nat) (w : World) (h0 : 0 < Lz)
    (H : ∀ v W, Own w W 5 1 v [] → Below w.heap.size w W → Calls Tryz.prog 233 #[v, .float .f64 b, .int .u8 103, .int .i64 (-1)] W (fun e w' => ∃ v1 ys, e = .returned v1 ∧ Own w w' 5 1 v1 ys ∧ ys.length = Lz ∧ BS ys ∧ Below w.heap.size w w')) :
    Calls Tryz.prog 219 #[.float .f64 b, .int .u8 103, .int .i64 (-1), .int .i64 64] w (fun e w' => ∃ s, e = .returned (.string s) ∧ s.size = Lz ∧ Asc s ∧ Below w.heap.size w w') := by
  have HH := Lib.hid H
  clear H
  obtain ⟨i0, hi, hzz⟩ := Option.map_eq_some_iff.1 info5
  simp only [Prod.mk.injEq] at hzz
  obtain ⟨hz0, hz1, hz2⟩ := hzz
  obtain ⟨wm, hmk, hown, hg⟩ := run_make_own w w.heap.size 117 5 i0 (.int .u8 0) 1 under117 hi hz0 hz1 .i64 .i64 24 (by rw [hz2]; decide) (by decide) (Nat.le_refl _)
  have hbm : Below w.heap.size w wm := (Below.refl w.heap.size w).grown hg (Nat.le_refl _) (fun k hk => by cases hk)
  have hmk' : (Instr.makeSlice 117 (.int .i64 0) (.int .i64 24)).run Tryz.prog w = .ok (.slice (some ⟨w.heap.size, 0, none⟩) 0 24) wm := hmk
  have HO : Hid (Own w wm 5 1 (.slice (some ⟨w.heap.size, 0, none⟩) 0 24) []) := Lib.hid ⟨hown, fun c h => (nomatch h)⟩
  have hmax : max (3 : Int) 24 = 24 := by decide
  clear hmk hown hg hi hz0 hz1 hz2
  go_enter Tryz.func219, Tryz.ntmps219
  go_wp2_with fail
  refine (HH.out _ wm HO.out hbm).mono ?_
  rintro e w2 ⟨v1, ys, rfl, ho, hl, hys, hb2⟩
  obtain ⟨l, hyl, hasc⟩ := bs_list ys hys
  have hll : l.length = Lz := by rw [← hl, hyl, List.length_map]
  obtain ⟨A, c, rfl, hrow⟩ := ho.row
  have hconv : (convert 117 9 (.slice A ys.length c)).run Tryz.prog w2 = .ok (.string ⟨l.toArray⟩) w2 := by
    rcases hrow with h | ⟨g, rfl, hg, hc⟩
    · rw [h] at hl
      simp at hl
      omega
    · have e1 : ys.length = l.length := by rw [hyl, List.length_map]
      rw [e1]
      exact run_convert_bytes_back (P := Tryz.prog) w2 117 9 5 ⟨g, 0, none⟩ c l under117 Tryz.underlying5 Tryz.underlying9 (fun j hj => by
        have h := hc j [Value.int .u8 (l[j].toNat : Int)] (by rw [hyl, List.getElem?_map, List.getElem?_eq_getElem hj]; rfl) 0 _ rfl
        rw [addr0]
        simpa using h)
  have HL := Lib.hid hll
  have HA := Lib.hid (asc_list l hasc)
  clear hyl hasc hl hll hrow ho hys HH HO
  go_wp2_with fail
  go_ret
  exact ⟨_, rfl, by rw [← HL.out]; simp [ByteArray.size], HA.out, hb2⟩
set_option maxRecDepth 100000 in
set_option maxHeartbeats 1000000 in
theorem c130' (b Lz : Nat) (w : World) (H : ∀ W, Below w.heap.size w W → Calls Tryz.prog 219 #[.float .f64 b, .int .u8 103, .int .i64 (-1), .int .i64 64] W (fun e w' => ∃ s, e = .returned (.string s) ∧ s.size = Lz ∧ Asc s ∧ Below W.heap.size W w')) :
    Calls Tryz.prog 130 #[.float .f64 b, .int .u8 103, .int .i64 (-1), .int .i64 64] w (fun e w' => ∃ s, e = .returned (.string s) ∧ s.size = Lz ∧ Asc s ∧ Below w.heap.size w w') := by
  have HH := Lib.hid (H w (Below.refl _ _))
  clear H
  go_enter Tryz.func130, Tryz.ntmps130
  go_wp2_with fail
  refine HH.out.mono ?_
  rintro e w2 ⟨s, rfl, hl, hs, hb⟩
  go_wp2_with fail
  go_ret
  exact ⟨_, rfl, hl, hs, hb⟩
/-- The tables of the library that a number's text asks for. -/
structure Tabs (w : World) : Prop where
  pow : PowTab w
  tab : Lib.TabIs Tryz.prog w "internal/strconv.uint64pow10" .u64 Lib.pow10Tab
theorem Tabs.below {w w1 : World} {B : Nat} (h : Tabs w) (hb : Below B w w1) (h4 : 4 < B) : Tabs w1 := ⟨h.pow.below hb h4, tabIs_below h.tab hb h4⟩
def lenN (k : Int) : Nat := Lib.nDigits k.natAbs + (if k < 0 then 1 else 0)
theorem c130 (k : Int) (w : World) (hk : k.natAbs < 1000000) (hT : Tabs w) :
    Calls Tryz.prog 130 #[.float .f64 (floatOfInt FloatKind.f64 k), .int .u8 103, .int .i64 (-1), .int .i64 64] w (fun e w' => ∃ s, e = .returned (.string s) ∧ s.size = lenN k ∧ Asc s ∧ Below w.heap.size w w') := by
  refine c130' _ _ w fun W hW => ?_
  have h4 : 4 < w.heap.size := hT.pow.1
  have hTW := hT.below hW h4
  have h4W : 4 < W.heap.size := hTW.pow.1
  have hpos : 0 < lenN k := by unfold lenN; have := Lib.nDigits_pos k.natAbs; omega
  refine c219 _ _ W hpos fun v W2 ho hb => ?_
  have hT2 := hTW.below hb h4W
  by_cases h0 : k = 0
  · subst h0
    rw [foi0]
    refine (c233z W v W2 ho hb).mono ?_
    rintro e w' ⟨v1, ys, he, ho, hl, hys, hb⟩
    exact ⟨v1, ys, he, ho, by rw [hl]; unfold lenN; rw [show (0 : Int).natAbs = 0 from rfl, Lib.nDigits_small (by decide)]; rfl, hys, hb⟩
  · obtain ⟨L, M, hL, hk0, hk1, hM, hM0, hM1, hbits⟩ := foi_bits k h0 hk
    rw [hbits]
    have h4w : 4 < w.heap.size := hT.pow.1
    by_cases hn : k < 0
    · have hlen : lenN k = Lib.nDigits k.natAbs + 1 := by unfold lenN; rw [if_pos hn]
      rw [hlen, if_pos hn]
      obtain ⟨B, hB⟩ : ∃ B, B = 9223372036854775808 + ((L + 1022) * 4503599627370496 + M) := ⟨_, rfl⟩
      rw [← hB]
      refine c233p W v B (L + 3071) (M - 4503599627370496) L M k.natAbs W2 ho hb hT2.pow h4W hT2.tab (by omega) (by omega) (by omega) ?_ ?_ ?_ hL hk0 hk1 hk hM hM0 hM1
      · rw [and_mask11 _ (by omega)]; omega
      · rw [and_mask52 _ (by omega)]; omega
      · rw [or_bit52 _ (by omega)]; omega
    · have hlen : lenN k = Lib.nDigits k.natAbs := by unfold lenN; rw [if_neg hn]; rfl
      rw [hlen, if_neg hn]
      obtain ⟨B, hB⟩ : ∃ B, B = 0 + ((L + 1022) * 4503599627370496 + M) := ⟨_, rfl⟩
      rw [← hB]
      refine c233n W v B (L + 1023) (M - 4503599627370496) L M k.natAbs W2 ho hb hT2.pow h4W hT2.tab (by omega) (by omega) (by omega) ?_ ?_ ?_ hL hk0 hk1 hk hM hM0 hM1
      · rw [and_mask11 _ (by omega)]; omega
      · rw [and_mask52 _ (by omega)]; omega
      · rw [or_bit52 _ (by omega)]; omega
end Go.Proofs.YtpahhejkpdkjmaaGreatDoor
