/- ftoa64 of a whole number below 0. -/
import Derived.Test.YtpahhejkpdkjmaaGreatDoorSI
set_option linter.unusedSimpArgs false
set_option linter.unusedVariables false
namespace Go.Proofs.YtpahhejkpdkjmaaGreatDoor
open Go.RowKit
attribute [local go_sem] run_store_float
set_option maxRecDepth 100000 in
set_option maxHeartbeats 2000000 in
theorem c233p (w0 : World) (v : Value) (B X Y L M k : Nat) (w : World) (HO : Own w0 w 5 1 v []) (HB : Below w0.heap.size w0 w) (hT : PowTab w) (hT4 : 4 < w0.heap.size) (hTab : Lib.TabIs Tryz.prog w "internal/strconv.uint64pow10" .u64 Lib.pow10Tab)
    (h63 : (B : Int) / 9223372036854775808 = 1) (h52 : (B : Int) / 4503599627370496 = (X : Int)) (hX : X < 4096) (hXL : bits BinOp.and IntKind.i64 (X : Int) 2047 = (L : Int) + 1023) (hY : bits BinOp.and IntKind.u64 (B : Int) 4503599627370495 = (Y : Int)) (hYM : bits BinOp.or IntKind.u64 (Y : Int) 4503599627370496 = (M : Int))
    (hL : L ≤ 19) (hk0 : 2 ^ L ≤ k) (hk1 : k < 2 ^ (L + 1)) (hk6 : k < 1000000) (hM : M = k * 2 ^ (52 - L)) (hM0 : 4503599627370496 ≤ M) (hM1 : M < 9007199254740992) :
    Calls Tryz.prog 233 #[v, .float .f64 B, .int .u8 103, .int .i64 (-1)] w
      (fun e w' => ∃ v1 ys, e = .returned v1 ∧ Own w0 w' 5 1 v1 ys ∧ ys.length = Lib.nDigits k + 1 ∧ BS ys ∧ Below w0.heap.size w0 w') := by
  have HH := Lib.hid HO
  have HT := Lib.hid hT
  have HTab := Lib.hid hTab
  have HK := Lib.hid (And.intro hk0 (And.intro hk1 hM))
  have h244 : ∀ W, Calls Tryz.prog 244 #[.int .u64 M] W (fun e w' => e = .returned (.int .i64 53) ∧ w' = W) := fun W => by
    have h := Tryz.bits_Len64 (M : Int) W (by omega) (by omega)
    rw [show ((M : Int)).toNat = M by omega, bitLen53 M hM0 hM1] at h
    exact h
  have H244 := Lib.hid h244
  clear HO hT hTab hk0 hk1 hM h244
  have h240 := c240 B
  go_enter Tryz.func233, Tryz.ntmps233
  go_wp2_with fail
  go_region
  go_wp2_with fail
  refine (H244.out _).mono ?_
  rintro e w2 ⟨rfl, rfl⟩
  go_wp2_with fail
  rw [show (L : Int) + 1023 + -1023 - 11 - 52 = (L : Int) - 63 by omega]
  generalize hW : World.drew _ = W1
  have hb1 : Below w.heap.size w W1 := by rw [← hW]; exact (by repeat (first | (with_reducible exact Below.refl _ _) | (with_reducible assumption) | ((with_reducible refine Below.alloc ?_ ?_ _); rotate_left; focus (first | exact Nat.le_refl _ | omega | (simp; done) | (simp; omega))) | ((with_reducible refine Below.setCell ?_ ?_ _); rotate_left; focus (first | exact Nat.le_refl _ | omega | (simp; done) | (simp; omega))) | (with_reducible refine Below.drew ?_) | (with_reducible refine below_drewN ?_ _) | ((with_reducible refine below_via (by assumption) ?_ ?_); focus (first | exact Nat.le_refl _ | omega | (simp; done) | (simp; omega)))))
  have hz : ∀ j, j < 32 → W1.cell? ⟨w.heap.size, j, none⟩ = some (.int .u8 0) := fun j hj => by
    rw [← hW]
    show (World.alloc w _).cell? _ = _
    rw [World.cell?_alloc_new]
    have hj2 : j = 0 ∨ j = 1 ∨ j = 2 ∨ j = 3 ∨ j = 4 ∨ j = 5 ∨ j = 6 ∨ j = 7 ∨ j = 8 ∨ j = 9 ∨ j = 10 ∨ j = 11 ∨ j = 12 ∨ j = 13 ∨ j = 14 ∨ j = 15 ∨ j = 16 ∨ j = 17 ∨ j = 18 ∨ j = 19 ∨ j = 20 ∨ j = 21 ∨ j = 22 ∨ j = 23 ∨ j = 24 ∨ j = 25 ∨ j = 26 ∨ j = 27 ∨ j = 28 ∨ j = 29 ∨ j = 30 ∨ j = 31 := by omega
    rcases hj2 with rfl | rfl | rfl | rfl | rfl | rfl | rfl | rfl | rfl | rfl | rfl | rfl | rfl | rfl | rfl | rfl | rfl | rfl | rfl | rfl | rfl | rfl | rfl | rfl | rfl | rfl | rfl | rfl | rfl | rfl | rfl | rfl <;> rfl
  have hf : ∀ j, W1.frozen? ⟨w.heap.size, j, none⟩ = false := fun j => by
    rw [← hW]
    exact frozen_alloc0 _ _ _ _
  have hs1 : W1.heap.size = w.heap.size + 1 := by rw [← hW]; simp
  clear hW
  have hb4 : 4 < w.heap.size := Nat.lt_of_lt_of_le hT4 HB.size
  have HS := sf k L M hL HK.out.1 HK.out.2.1 HK.out.2.2 W1 (HT.out.below hb1 hb4)
  unfold SF at HS
  refine HS.mono ?_
  rintro e w3 ⟨p, hp0, hp1, hd64', he, hb3⟩
  have hk1 : 1 ≤ k := Nat.le_trans (Nat.one_le_pow L 2 (by decide)) HK.out.1
  obtain ⟨D, hD⟩ : ∃ D, D = Lib.nDigits k := ⟨_, rfl⟩
  have hD1 : 1 ≤ D := by rw [hD]; exact Lib.nDigits_pos k
  have hD6 : D ≤ 6 := by rw [hD]; exact nDigits_le6 k hk6
  obtain ⟨d, hd⟩ : ∃ d, d = k * 10 ^ (p - 1) := ⟨_, rfl⟩
  have hnd : Lib.nDigits d = D + (p - 1) := by rw [hd, hD]; exact nDigits_mul k (p - 1) hk1
  have hd1 : 1 ≤ d := by rw [hd]; exact Nat.mul_pos hk1 (Nat.pow_pos (by decide))
  have hd64 : d < 18446744073709551616 := by rw [hd]; exact hd64'
  clear hd64'
  have hdz : ∀ j, j < p - 1 → Lib.dg d j = 48 := fun j hj => by rw [hd]; exact dg_zero k (p - 1) j hj
  rw [← hd] at he
  subst he
  have h247 : ∀ W, Below w.heap.size w W → Calls Tryz.prog 247 #[.int .u64 d] W (fun e w' => e = .returned (.int .i64 ((D + (p - 1) : Nat) : Int)) ∧ w' = W) := fun W hW => by
    have h := Tryz.internal_strconv_numDigits d hd1 hd64 W (tabIs_below HTab.out hW (by omega))
    rw [hnd] at h
    exact h
  have h246 : ∀ W, Below W1.heap.size W1 W → Calls Tryz.prog 246 #[.slice (some ⟨w.heap.size, 0, none⟩) 32 32, .int .u64 d, .int .i64 (1 - (p : Int)), .int .i64 ((D + (p - 1) : Nat) : Int)] W
      (fun e w' => ∃ nz : Nat, e = .returned (.tuple #[.int .i64 D, .int .i64 nz]) ∧ nz ≤ D ∧ (∀ j, j < nz → ∃ x : Nat, x < 128 ∧ w'.cell? ⟨w.heap.size, j, none⟩ = some (.int .u8 x)) ∧ Below w.heap.size W w') := fun W hW => by
    refine (c246 w.heap.size (D + (p - 1)) d (1 - (p : Int)) W (by rw [← hnd]; exact Lib.lt_pow_nDigits d) hd64 (by omega) (by omega) (by omega) (by have := hW.size; omega)
      (fun j hj => (hW.cell (p := ⟨w.heap.size, j, none⟩) (by show w.heap.size < _; omega)).trans (hz j hj)) (fun j => (hW.frozen (p := ⟨w.heap.size, j, none⟩) (by show w.heap.size < _; omega)).trans (hf j))).mono ?_
    rintro e w' ⟨nz, he, hnz, h48, hc, hb⟩
    have hnzD : nz ≤ D := by
      rcases Nat.lt_or_ge D nz with h | h
      · exact absurd (hdz _ (by omega)) (h48 (by omega))
      · exact h
    refine ⟨nz, ?_, hnzD, fun j hj => hc j (by omega), hb⟩
    rw [he, show ((D + (p - 1) : Nat) : Int) + (1 - (p : Int)) = (D : Int) by omega]
  have H247 := Lib.hid h247
  have H246 := Lib.hid h246
  obtain ⟨N, hN⟩ : ∃ N, N = D + (p - 1) := ⟨_, rfl⟩
  rw [← hN] at H247 H246
  have HDK := Lib.hid hD
  clear h247 h246 hd hnd hdz hz hf HS HTab HT H244 h240 hN hD
  go_wp2_with fail
  have hb13 : Below w.heap.size w w3 := hb1.trans (hb3.mono (by omega))
  go_region_with (first
    | (go_at_call 247; refine (H247.out w3.drew (Below.drew hb13)).mono ?_; rintro e w4 ⟨rfl, rfl⟩)
    | (go_at_call 246; refine (H246.out w3.drew (Below.drew hb3)).mono ?_; rintro e w5 ⟨nz, rfl, hnz, hdc, hb5⟩))
  have HDC := Lib.hid hdc
  have hb5' : Below w.heap.size w w5 := (Below.drew hb13).trans hb5
  have hs5 : w.heap.size < w5.heap.size := by have := hb3.size; have := hb5.size; have e : w3.drew.heap.size = w3.heap.size := rfl; omega
  clear hdc hb5 hb13 hb3 hb1 H246 H247
  go_wp2_with fail
  refine (c243p w0 v w.heap.size D nz w5 (HH.out.below hb5') (HB.trans (hb5'.mono HB.size)) (fun e => by have := (HH.out.1.lt _ e).2; omega) hs5 hD1 hD6 hnz HDC.out).mono ?_
  rintro e w6 ⟨v1, ys, rfl, ho, hl, hys, hb⟩
  go_wp2_with fail
  go_ret
  exact ⟨_, ys, rfl, ho, by rw [hl, HDK.out], hys, hb⟩
end Go.Proofs.YtpahhejkpdkjmaaGreatDoor
