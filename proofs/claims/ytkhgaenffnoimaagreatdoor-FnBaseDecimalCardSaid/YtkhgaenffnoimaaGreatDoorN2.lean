/- formatBits of a base that is a power of two. -/
import Derived.Test.YtkhgaenffnoimaaGreatDoorN1
set_option linter.unusedSimpArgs false
set_option linter.unusedVariables false
namespace Go.Proofs.YtkhgaenffnoimaaGreatDoor
open Go.RowKit
attribute [local go_sem] run_store_float lch_at
/-- The table of math/bits.TrailingZeros64, where it is read. -/
def DB (w : World) : Prop := 14 < w.heap.size ∧ ∀ s : Nat, 1 ≤ s → s ≤ 5 → w.cell? ⟨14, 2 ^ s * 285870213051353865 % 18446744073709551616 / 288230376151711744, none⟩ = some (.int .u8 (s : Int))
theorem DB.below {w w1 : World} {B : Nat} (h : DB w) (hb : Below B w w1) (hB : 14 < B) : DB w1 :=
  ⟨Nat.lt_of_lt_of_le h.1 hb.size, fun s h0 h1 => (hb.cell (p := ⟨14, _, none⟩) hB).trans (h.2 s h0 h1)⟩
set_option maxRecDepth 100000 in
theorem c168_1 (w : World) (hl : 14 < w.heap.size) (h : w.cell? ⟨14, 1, none⟩ = some (.int .u8 1)) : Calls Tryz.prog 168 #[.int .u64 2] w (fun e w' => e = .returned (.int .i64 1) ∧ w' = w) := by
  have e : IntKind.u64.wrap (bits BinOp.and IntKind.u64 2 (IntKind.u64.wrap (-2)) * 285870213051353865) / 288230376151711744 = 1 := by decide +kernel
  go_enter Tryz.func168, Tryz.ntmps168
  go_wp2
  go_ret
  exact ⟨rfl, rfl⟩
set_option maxRecDepth 100000 in
theorem c168_2 (w : World) (hl : 14 < w.heap.size) (h : w.cell? ⟨14, 3, none⟩ = some (.int .u8 2)) : Calls Tryz.prog 168 #[.int .u64 4] w (fun e w' => e = .returned (.int .i64 2) ∧ w' = w) := by
  have e : IntKind.u64.wrap (bits BinOp.and IntKind.u64 4 (IntKind.u64.wrap (-4)) * 285870213051353865) / 288230376151711744 = 3 := by decide +kernel
  go_enter Tryz.func168, Tryz.ntmps168
  go_wp2
  go_ret
  exact ⟨rfl, rfl⟩
set_option maxRecDepth 100000 in
theorem c168_3 (w : World) (hl : 14 < w.heap.size) (h : w.cell? ⟨14, 7, none⟩ = some (.int .u8 3)) : Calls Tryz.prog 168 #[.int .u64 8] w (fun e w' => e = .returned (.int .i64 3) ∧ w' = w) := by
  have e : IntKind.u64.wrap (bits BinOp.and IntKind.u64 8 (IntKind.u64.wrap (-8)) * 285870213051353865) / 288230376151711744 = 7 := by decide +kernel
  go_enter Tryz.func168, Tryz.ntmps168
  go_wp2
  go_ret
  exact ⟨rfl, rfl⟩
set_option maxRecDepth 100000 in
theorem c168_4 (w : World) (hl : 14 < w.heap.size) (h : w.cell? ⟨14, 15, none⟩ = some (.int .u8 4)) : Calls Tryz.prog 168 #[.int .u64 16] w (fun e w' => e = .returned (.int .i64 4) ∧ w' = w) := by
  have e : IntKind.u64.wrap (bits BinOp.and IntKind.u64 16 (IntKind.u64.wrap (-16)) * 285870213051353865) / 288230376151711744 = 15 := by decide +kernel
  go_enter Tryz.func168, Tryz.ntmps168
  go_wp2
  go_ret
  exact ⟨rfl, rfl⟩
set_option maxRecDepth 100000 in
theorem c168_5 (w : World) (hl : 14 < w.heap.size) (h : w.cell? ⟨14, 31, none⟩ = some (.int .u8 5)) : Calls Tryz.prog 168 #[.int .u64 32] w (fun e w' => e = .returned (.int .i64 5) ∧ w' = w) := by
  have e : IntKind.u64.wrap (bits BinOp.and IntKind.u64 32 (IntKind.u64.wrap (-32)) * 285870213051353865) / 288230376151711744 = 31 := by decide +kernel
  go_enter Tryz.func168, Tryz.ntmps168
  go_wp2
  go_ret
  exact ⟨rfl, rfl⟩
theorem c168 (s : Nat) (w : World) (hs0 : 1 ≤ s) (hs5 : s ≤ 5) (hT : DB w) : Calls Tryz.prog 168 #[.int .u64 ((2 ^ s : Nat) : Int)] w (fun e w' => e = .returned (.int .i64 (s : Int)) ∧ w' = w) := by
  obtain ⟨hl, hc⟩ := hT
  have h := hc s hs0 hs5
  clear hc
  obtain rfl | rfl | rfl | rfl | rfl : s = 1 ∨ s = 2 ∨ s = 3 ∨ s = 4 ∨ s = 5 := by omega
  · exact c168_1 w hl h
  · exact c168_2 w hl h
  · exact c168_3 w hl h
  · exact c168_4 w hl h
  · exact c168_5 w hl h
theorem wrap_u64_nat (n : Nat) (h : n < 18446744073709551616) : IntKind.u64.wrap (n : Int) = (n : Int) := by
  rw [IntKind.wrap_u64]
  omega
theorem ofInt_nat (x : Nat) (h : x < 18446744073709551616) : (BitVec.ofInt 64 (x : Int)).toNat = x := by
  rw [BitVec.toNat_ofInt]
  omega
theorem and_b (x b s : Nat) (h : x < 18446744073709551616) (hb : b = 2 ^ s) (hs5 : s ≤ 5) : bits BinOp.and IntKind.u64 (x : Int) ((b - 1 : Nat) : Int) = ((x % b : Nat) : Int) := by
  subst hb
  have h5 : 2 ^ s ≤ 2 ^ 5 := Nat.pow_le_pow_right (by decide) hs5
  have hs : 2 ^ s - 1 < 18446744073709551616 := by omega
  show IntKind.u64.wrap ((BitVec.ofInt 64 (x : Int) &&& BitVec.ofInt 64 ((2 ^ s - 1 : Nat) : Int)).toNat : Int) = _
  rw [BitVec.toNat_and, ofInt_nat x h, ofInt_nat _ hs, Nat.and_two_pow_sub_one_eq_mod]
  exact wrap_u64_nat _ (Nat.lt_of_le_of_lt (Nat.mod_le _ _) h)
set_option maxRecDepth 100000 in
set_option maxHeartbeats 1000000 in
theorem c142P (b s n : Nat) (w : World) (hs0 : 1 ≤ s) (hs5 : s ≤ 5) (hbs : b = 2 ^ s) (hn : n ≤ 99999999999) (hT : DB w) :
    Calls Tryz.prog 142 #[.slice none 0 0, .int .u64 n, .int .i64 b, .bool false, .bool false] w (Ret w (.tuple #[.slice none 0 0, .string ⟨((digs b 40 n).map fun d => UInt8.ofNat (lch d)).toArray⟩])) := by
  have hb5 : b = 2 ∨ b = 4 ∨ b = 8 ∨ b = 16 ∨ b = 32 := by
    obtain rfl | rfl | rfl | rfl | rfl : s = 1 ∨ s = 2 ∨ s = 3 ∨ s = 4 ∨ s = 5 := by omega
    all_goals simp at hbs; omega
  have h0 : 2 ≤ b := by omega
  have h1 : b ≤ 36 := by omega
  have h10 : b ≠ 10 := by omega
  have hp : isP2 b = true := by rcases hb5 with rfl | rfl | rfl | rfl | rfl <;> rfl
  have H168 : Hid (∀ W, DB W → Calls Tryz.prog 168 #[.int .u64 (b : Int)] W (fun e w' => e = .returned (.int .i64 (s : Int)) ∧ w' = W)) := Lib.hid fun W h => by
    rw [hbs]
    exact c168 s W hs0 hs5 h
  have HBS := Lib.hid hbs
  have HT := Lib.hid hT
  clear hT hb5 hbs
  have h10' : ((b : Int) == 10) = false := by
    have : ¬ (b : Int) = 10 := by omega
    simpa using this
  go_enter Tryz.func142, Tryz.ntmps142
  go_wp2_with (go_at_call 167; refine (c167 b _ h0 h1).mono ?_; rintro e w1 ⟨rfl, rfl⟩; rw [hp])
  have hbA : Below w.heap.size w (w.alloc (.cells Tryz.zeroCells201 201)) := (by repeat (first | (with_reducible exact Below.refl _ _) | (with_reducible assumption) | ((with_reducible refine Below.alloc ?_ ?_ _); rotate_left; focus (first | exact Nat.le_refl _ | omega | (simp; done) | (simp; omega))) | ((with_reducible refine Below.setCell ?_ ?_ _); rotate_left; focus (first | exact Nat.le_refl _ | omega | (simp; done) | (simp; omega))) | (with_reducible refine Below.drew ?_) | (with_reducible refine below_drewN ?_ _) | ((with_reducible refine below_via (by assumption) ?_ ?_); focus (first | exact Nat.le_refl _ | omega | (simp; done) | (simp; omega)))))
  have HB0 := Lib.hid (bblk201 w 65 rfl)
  have HT1 := Lib.hid (HT.out.below hbA HT.out.1)
  generalize (w.alloc (.cells Tryz.zeroCells201 201)) = W1 at hbA HB0 HT1 ⊢
  refine (H168.out W1 HT1.out).mono ?_
  rintro e w1 ⟨rfl, rfl⟩
  have hwb : IntKind.u64.wrap (s : Int) = (s : Int) := by rw [IntKind.wrap_u64]; omega
  have hwm : IntKind.u64.wrap ((b : Int) - 1) = ((b - 1 : Nat) : Int) := by rw [IntKind.wrap_u64]; omega
  go_wp2_with fail
  go_loopw [1, 13] (fun u i wr => ∃ (x k : Nat) (tl : List Nat), k ≤ 37 ∧ x < 2 ^ (37 - k) ∧ u = .int .u64 x ∧ i = .int .i64 ((65 - k : Nat) : Int) ∧ digs b 40 n = digs b (40 - k) x ++ tl ∧ tl.length = k ∧ Below w.heap.size w wr ∧ BBlk wr w.heap.size (dRow (65 - k) tl)) (fun u _ _ => (intOf u).toNat)
  case atStart => exact ⟨n, 0, [], by omega, by omega, rfl, rfl, by simp, rfl, hbA, by simpa [dRow] using HB0.out⟩
  case round =>
    obtain ⟨x, k, tl, hk, hx, rfl, rfl, hd, htl, hb, hbb⟩ := hrel
    have HD := Lib.hid hd
    have HBB := Lib.hid hbb
    have HX := Lib.hid hx
    clear hd hbb hx
    by_cases hxb : b ≤ x
    · have hk36 : k < 36 := by
        have h := HX.out
        by_cases h36 : k < 36
        · exact h36
        · have : 2 ^ (37 - k) ≤ 2 ^ 1 := Nat.pow_le_pow_right (by decide) (by omega)
          omega
      have hx64 : x < 18446744073709551616 := by
        have h := HX.out
        have : 2 ^ (37 - k) ≤ 2 ^ 37 := Nat.pow_le_pow_right (by decide) (by omega)
        omega
      obtain ⟨q, hq⟩ : ∃ q, q = x / b := ⟨_, rfl⟩
      obtain ⟨r, hr⟩ : ∃ r, r = x % b := ⟨_, rfl⟩
      have hrb : r < b := by rw [hr]; exact Nat.mod_lt _ (by omega)
      have hqx : q < x := by rw [hq]; exact Nat.div_lt_self (by omega) (by omega)
      have g1 : bits BinOp.and IntKind.u64 (x : Int) ((b - 1 : Nat) : Int) = (r : Int) := by rw [hr]; exact and_b x b s hx64 HBS.out hs5
      have g2 : (x : Int) / 2 ^ s = (q : Int) := by
        rw [hq, HBS.out, Int.natCast_ediv, Int.natCast_pow]
        rfl
      have HQ := Lib.hid (And.intro hq hr)
      clear hq hr
      have ec : wr.cell? ⟨w.heap.size, 65 - k - 1, none⟩ = some (.int .u8 0) := by
        have h := HBB.out.cell (65 - k - 1) (by rw [dRow_len]; omega)
        rw [h]
        unfold dRow
        simp only [List.getD]
        rw [List.getElem?_append_left (by simp; omega), List.getElem?_replicate, if_pos (by omega)]
        rfl
      have ef : wr.frozen? ⟨w.heap.size, 65 - k - 1, none⟩ = false := HBB.out.free _ (by rw [dRow_len]; omega)
      go_wp2_with fail
      obtain ⟨hq, hr⟩ := HQ.out
      refine ⟨⟨q, k + 1, r :: tl, by omega, ?_, rfl, ?_, ?_, by simp [htl], hb.setCell (Nat.le_refl _) _, ?_⟩, by simp only [intOf]; omega⟩
      · have h := HX.out
        rw [show 37 - k = (37 - (k + 1)) + 1 by omega, Nat.pow_succ] at h
        rw [hq]
        refine (Nat.div_lt_iff_lt_mul (by omega)).2 (Nat.lt_of_lt_of_le h (Nat.mul_le_mul_left _ h0))
      · congr 1
        omega
      · rw [HD.out, show 40 - k = (40 - (k + 1)) + 1 by omega, digs_step _ _ _ hxb, hq, hr]
        simp
      · have h := HBB.out.set_ (65 - k - 1) (by rw [dRow_len]; omega) ((lch r : Nat) : Int) (by omega) (by have := lch_lt r (by omega); omega)
        rw [show 65 - k = (65 - (k + 1)) + 1 by omega] at h
        rw [show (65 - (k + 1)) + 1 - 1 = 65 - (k + 1) by omega, dRow_set] at h
        rw [show 65 - k - 1 = 65 - (k + 1) by omega]
        exact h
    · have hx36 : x < 36 := by omega
      have hk37 : k ≤ 37 := hk
      have ec : wr.cell? ⟨w.heap.size, 65 - k - 1, none⟩ = some (.int .u8 0) := by
        have h := HBB.out.cell (65 - k - 1) (by rw [dRow_len]; omega)
        rw [h]
        unfold dRow
        simp only [List.getD]
        rw [List.getElem?_append_left (by simp; omega), List.getElem?_replicate, if_pos (by omega)]
        rfl
      have ef : wr.frozen? ⟨w.heap.size, 65 - k - 1, none⟩ = false := HBB.out.free _ (by rw [dRow_len]; omega)
      have hF : BBlk (wr.setCell ⟨w.heap.size, 65 - k - 1, none⟩ (.int .u8 ((lch x : Nat) : Int))) w.heap.size (dRow (65 - k - 1) (x :: tl)) := by
        have h := HBB.out.set_ (65 - k - 1) (by rw [dRow_len]; omega) ((lch x : Nat) : Int) (by omega) (by have := lch_lt x hx36; omega)
        rw [show 65 - k = (65 - k - 1) + 1 by omega] at h
        rw [show (65 - k - 1) + 1 - 1 = 65 - k - 1 by omega, dRow_set] at h
        exact h
      have hdd : digs b 40 n = x :: tl := by
        rw [HD.out, show 40 - k = (39 - k) + 1 by omega, digs_last _ _ _ (by omega)]
        rfl
      have hsl : ∀ W, (Instr.sliceAt 201 (.pointer (some ⟨w.heap.size, 0, none⟩)) (some (.int .i64 (((65 - k : Nat) : Int) - 1))) none none).run Tryz.prog W = .ok (.slice (some ⟨w.heap.size, 65 - k - 1, none⟩) (k + 1) (k + 1)) W := fun W => slice201 W _ _ k hk37 (by omega)
      have hcv : (convert 147 9 (.slice (some ⟨w.heap.size, 65 - k - 1, none⟩) (k + 1) (k + 1))).run Tryz.prog (wr.setCell ⟨w.heap.size, 65 - k - 1, none⟩ (.int .u8 ((lch x : Nat) : Int))) = .ok (.string ⟨((digs b 40 n).map fun d => UInt8.ofNat (lch d)).toArray⟩) (wr.setCell ⟨w.heap.size, 65 - k - 1, none⟩ (.int .u8 ((lch x : Nat) : Int))) := by
        rw [hdd]
        exact conv201 _ _ _ k (x :: tl) hF (by simp [htl]) (dig36 b n h0 h1 _ hdd)
      clear hF hdd
      go_wp2_with fail
      go_ret2
      exact ret_mk (hb.setCell (Nat.le_refl _) _)
end Go.Proofs.YtkhgaenffnoimaaGreatDoor
