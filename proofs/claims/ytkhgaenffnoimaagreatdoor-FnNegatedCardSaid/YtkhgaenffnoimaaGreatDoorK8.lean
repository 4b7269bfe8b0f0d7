/- ftoa64 of a whole number. -/
import Derived.Test.YtkhgaenffnoimaaGreatDoorK5
set_option linter.unusedSimpArgs false
set_option linter.unusedVariables false
namespace Go.Proofs.YtkhgaenffnoimaaGreatDoor
open Go.RowKit
attribute [local go_sem] run_store_float
theorem wrap_i64_small (n : Nat) (h : n < 9223372036854775808) : IntKind.i64.wrap (n : Int) = (n : Int) := Lib.wrap_i64_small n h
theorem and_mask52 (x : Nat) (h : x < 18446744073709551616) : bits BinOp.and IntKind.u64 (x : Int) 4503599627370495 = ((x % 4503599627370496 : Nat) : Int) := by
  show IntKind.u64.wrap ((BitVec.ofInt 64 (x : Int) &&& BitVec.ofInt 64 ((4503599627370495 : Nat) : Int)).toNat : Int) = _
  rw [BitVec.toNat_and, ofInt_u64 x h, ofInt_u64 4503599627370495 (by omega), show (4503599627370495 : Nat) = 2 ^ 52 - 1 by decide, Nat.and_two_pow_sub_one_eq_mod]
  exact wrap_u64_small _ (by omega)
theorem and_mask11 (x : Nat) (h : x < 9223372036854775808) : bits BinOp.and IntKind.i64 (x : Int) 2047 = ((x % 2048 : Nat) : Int) := by
  show IntKind.i64.wrap ((BitVec.ofInt 64 (x : Int) &&& BitVec.ofInt 64 ((2047 : Nat) : Int)).toNat : Int) = _
  rw [BitVec.toNat_and, ofInt_u64 x (by omega), ofInt_u64 2047 (by omega), show (2047 : Nat) = 2 ^ 11 - 1 by decide, Nat.and_two_pow_sub_one_eq_mod]
  exact wrap_i64_small _ (by omega)
theorem or_bit52 (x : Nat) (h : x < 4503599627370496) : bits BinOp.or IntKind.u64 (x : Int) 4503599627370496 = ((x + 4503599627370496 : Nat) : Int) := by
  show IntKind.u64.wrap ((BitVec.ofInt 64 (x : Int) ||| BitVec.ofInt 64 ((4503599627370496 : Nat) : Int)).toNat : Int) = _
  have e : x ||| 4503599627370496 = x + 4503599627370496 := by
    have := Nat.two_pow_add_eq_or_of_lt (i := 52) (b := x) (by simpa using h) 1
    rw [Nat.or_comm]
    simp only [Nat.reducePow, Nat.mul_one] at this
    omega
  rw [BitVec.toNat_or, ofInt_u64 x (by omega), ofInt_u64 4503599627370496 (by omega), e]
  exact wrap_u64_small _ (by omega)
theorem bitLen53 (M : Nat) (h0 : 4503599627370496 ≤ M) (h1 : M < 9007199254740992) : Lib.bitLen M = 53 := by
  have h := Lib.bitLenAux_bounds 64 M (by omega) (by omega)
  have e : Lib.bitLen M = Lib.bitLenAux 64 M := rfl
  rw [e]
  generalize Lib.bitLenAux 64 M = n at h
  obtain ⟨a, b, c⟩ := h
  rcases Nat.lt_trichotomy n 53 with hn | hn | hn
  · have : 2 ^ n ≤ 2 ^ 52 := Nat.pow_le_pow_right (by decide) (by omega)
    simp only [Nat.reducePow] at this
    omega
  · exact hn
  · have : 2 ^ 53 ≤ 2 ^ (n - 1) := Nat.pow_le_pow_right (by decide) (by omega)
    simp only [Nat.reducePow] at this
    omega
theorem c183 (b : Nat) (w : World) : (callFunc 183 #[.float .f64 b]).run Tryz.prog w = .ok (.value (.int .u64 b)) w := by
  rw [run_callFunc_extern (e := Extern.MathFloatBits.float64bits) Tryz.func183 (by kernel_rfl) (by kernel_rfl) (by kernel_rfl) (by kernel_rfl)]
  rfl
set_option maxRecDepth 100000 in
set_option maxHeartbeats 2000000 in
theorem c163z (w0 : World) (v : Value) (w : World) (HO : Own w0 w 5 1 v []) (HB : Below w0.heap.size w0 w) :
    Calls Tryz.prog 163 #[v, .float .f64 0, .int .u8 103, .int .i64 (-1)] w
      (fun e w' => ∃ v1, e = .returned v1 ∧ Own w0 w' 5 1 v1 (rowsB [48]) ∧ Below w0.heap.size w0 w') := by
  have HH := Lib.hid HO
  clear HO
  have h240 := c183 0
  go_enter Tryz.func163, Tryz.ntmps163
  go_wp2_with fail
  go_region
  go_wp2_with fail
  refine (c186z w0 v w.drew (HH.out.below (Below.drew (Below.refl _ _))) (Below.drew HB)).mono ?_
  rintro e w2 ⟨v1, rfl, ho, hb⟩
  go_wp2_with fail
  go_ret
  exact ⟨_, rfl, ho, hb⟩
theorem tabIs_below {w w1 : World} {B : Nat} (h : Lib.TabIs Tryz.prog w "internal/strconv.uint64pow10" .u64 Lib.pow10Tab) (hb : Below B w w1) (h3 : 18 < B) : Lib.TabIs Tryz.prog w1 "internal/strconv.uint64pow10" .u64 Lib.pow10Tab := by
  have hg : Tryz.prog.globalNamed "internal/strconv.uint64pow10" = some 3 := by kernel_rfl
  unfold Lib.TabIs World.var? at *
  simp only [hg, Option.bind_some] at h ⊢
  rw [hb.block 3 (by omega)]
  exact h
set_option maxRecDepth 100000 in
set_option maxHeartbeats 2000000 in
theorem c163n (w0 : World) (v : Value) (B X Y L M k : Nat) (w : World) (HO : Own w0 w 5 1 v []) (HB : Below w0.heap.size w0 w) (hT : PowTab w) (hT4 : 18 < w0.heap.size) (hTab : Lib.TabIs Tryz.prog w "internal/strconv.uint64pow10" .u64 Lib.pow10Tab)
    (h63 : (B : Int) / 9223372036854775808 = 0) (h52 : (B : Int) / 4503599627370496 = (X : Int)) (hX : X < 4096) (hXL : bits BinOp.and IntKind.i64 (X : Int) 2047 = (L : Int) + 1023) (hY : bits BinOp.and IntKind.u64 (B : Int) 4503599627370495 = (Y : Int)) (hYM : bits BinOp.or IntKind.u64 (Y : Int) 4503599627370496 = (M : Int))
    (hL : L ≤ 19) (hk0 : 2 ^ L ≤ k) (hk1 : k < 2 ^ (L + 1)) (hk6 : k < 1000000) (hM : M = k * 2 ^ (52 - L)) (hM0 : 4503599627370496 ≤ M) (hM1 : M < 9007199254740992) :
    Calls Tryz.prog 163 #[v, .float .f64 B, .int .u8 103, .int .i64 (-1)] w
      (fun e w' => ∃ v1, e = .returned v1 ∧ Own w0 w' 5 1 v1 (rowsB ([] ++ dec k)) ∧ Below w0.heap.size w0 w') := by
  have HH := Lib.hid HO
  have HT := Lib.hid hT
  have HTab := Lib.hid hTab
  have HK := Lib.hid (And.intro hk0 (And.intro hk1 hM))
  have h244 : ∀ W, Calls Tryz.prog 165 #[.int .u64 M] W (fun e w' => e = .returned (.int .i64 53) ∧ w' = W) := fun W => by
    have h := Tryz.bits_Len64 (M : Int) W (by omega) (by omega)
    rw [show ((M : Int)).toNat = M by omega, bitLen53 M hM0 hM1] at h
    exact h
  have H244 := Lib.hid h244
  clear HO hT hTab hk0 hk1 hM h244
  have h240 := c183 B
  go_enter Tryz.func163, Tryz.ntmps163
  go_wp2_with fail
  go_region
  go_wp2_with fail
  refine (H244.out _).mono ?_
  rintro e w2 ⟨rfl, rfl⟩
  go_wp2_with fail
  rw [show (L : Int) + 1023 + -1023 - 11 - 52 = (L : Int) - 63 by omega]
  generalize hW : World.drew _ = W1
  have hb1 : Below w.heap.size w W1 := by rw [← hW]; exact (by repeat (first | (with_reducible exact Below.refl _ _) | (with_reducible assumption) | ((with_reducible refine Below.alloc ?_ ?_ _); rotate_left; focus (first | exact Nat.le_refl _ | omega | (simp; done) | (simp; omega))) | ((with_reducible refine Below.setCell ?_ ?_ _); rotate_left; focus (first | exact Nat.le_refl _ | omega | (simp; done) | (simp; omega))) | (with_reducible refine Below.drew ?_) | (with_reducible refine below_drewN ?_ _) | ((with_reducible refine below_via (by assumption) ?_ ?_); focus (first | exact Nat.le_refl _ | omega | (simp; done) | (simp; omega)))))
  have hz : ∀ j, j < 32 → W1.cell? ⟨w.heap.size, j, none⟩ = some (.int .u8 0) := fun j hj => by
    rw [← hW]
    show (World.alloc w _).cell? _ = _
    rw [World.cell?_alloc_new]
    have hj2 : j = 0 ∨ j = 1 ∨ j = 2 ∨ j = 3 ∨ j = 4 ∨ j = 5 ∨ j = 6 ∨ j = 7 ∨ j = 8 ∨ j = 9 ∨ j = 10 ∨ j = 11 ∨ j = 12 ∨ j = 13 ∨ j = 14 ∨ j = 15 ∨ j = 16 ∨ j = 17 ∨ j = 18 ∨ j = 19 ∨ j = 20 ∨ j = 21 ∨ j = 22 ∨ j = 23 ∨ j = 24 ∨ j = 25 ∨ j = 26 ∨ j = 27 ∨ j = 28 ∨ j = 29 ∨ j = 30 ∨ j = 31 := by omega
    rcases hj2 with rfl | rfl | rfl | rfl | rfl | rfl | rfl | rfl | rfl | rfl | rfl | rfl | rfl | rfl | rfl | rfl | rfl | rfl | rfl | rfl | rfl | rfl | rfl | rfl | rfl | rfl | rfl | rfl | rfl | rfl | rfl | rfl <;> rfl
  have hf : ∀ j, W1.frozen? ⟨w.heap.size, j, none⟩ = false := fun j => by
    rw [← hW]
    exact frozen_alloc0 _ _ _ _
  have hs1 : W1.heap.size = w.heap.size + 1 := by rw [← hW]; simp
  clear hW
  have hb4 : 18 < w.heap.size := Nat.lt_of_lt_of_le hT4 HB.size
  have HS := sf k L M hL HK.out.1 HK.out.2.1 HK.out.2.2 W1 (HT.out.below hb1 hb4)
  unfold SF at HS
  refine HS.mono ?_
  rintro e w3 ⟨p, hp0, hp1, hd64', he, hb3⟩
  have hk1 : 1 ≤ k := Nat.le_trans (Nat.one_le_pow L 2 (by decide)) HK.out.1
  obtain ⟨D, hD⟩ : ∃ D, D = Lib.nDigits k := ⟨_, rfl⟩
  have hD1 : 1 ≤ D := by rw [hD]; exact Lib.nDigits_pos k
  have hD6 : D ≤ 6 := by rw [hD]; exact nDigits_le6 k hk6
  obtain ⟨d, hd⟩ : ∃ d, d = k * 10 ^ (p - 1) := ⟨_, rfl⟩
  have hnd : Lib.nDigits d = D + (p - 1) := by rw [hd, hD]; exact nDigits_mul k (p - 1) hk1
  have hd1 : 1 ≤ d := by rw [hd]; exact Nat.mul_pos hk1 (Nat.pow_pos (by decide))
  have hd64 : d < 18446744073709551616 := by rw [hd]; exact hd64'
  clear hd64'
  have hdz : ∀ j, j < p - 1 → Lib.dg d j = 48 := fun j hj => by rw [hd]; exact dg_zero k (p - 1) j hj
  rw [← hd] at he
  subst he
  have h247 : ∀ W, Below w.heap.size w W → Calls Tryz.prog 140 #[.int .u64 d] W (fun e w' => e = .returned (.int .i64 ((D + (p - 1) : Nat) : Int)) ∧ w' = W) := fun W hW => by
    have h := Tryz.internal_strconv_numDigits d hd1 hd64 W (tabIs_below HTab.out hW (by omega))
    rw [hnd] at h
    exact h
  obtain ⟨F, hF⟩ : ∃ F : Nat → UInt8, F = fun j => Lib.dg k (D - 1 - j) := ⟨_, rfl⟩
  have hFd : ∀ j, j < D → Lib.dg d (D + (p - 1) - 1 - j) = F j := fun j hj => by
    rw [hF, hd, show D + (p - 1) - 1 - j = (D - 1 - j) + (p - 1) by omega, dg_mul]
  have hdec : (List.range D).map F = dec k := by rw [dec_range, hF, hD]
  have h246 : ∀ W, Below W1.heap.size W1 W → Calls Tryz.prog 188 #[.slice (some ⟨w.heap.size, 0, none⟩) 32 32, .int .u64 d, .int .i64 (1 - (p : Int)), .int .i64 ((D + (p - 1) : Nat) : Int)] W
      (fun e w' => ∃ nz : Nat, e = .returned (.tuple #[.int .i64 D, .int .i64 nz]) ∧ nz ≤ D ∧ ((List.range nz).map F ++ List.replicate (D - nz) 48 = dec k) ∧ (∀ j, j < nz → w'.cell? ⟨w.heap.size, j, none⟩ = some (.int .u8 ((F j).toNat : Int))) ∧ Below w.heap.size W w') := fun W hW => by
    refine (c188 w.heap.size (D + (p - 1)) d (1 - (p : Int)) W (by rw [← hnd]; exact Lib.lt_pow_nDigits d) hd64 (by omega) (by omega) (by omega) (by have := hW.size; omega)
      (fun j hj => (hW.cell (p := ⟨w.heap.size, j, none⟩) (by show w.heap.size < _; omega)).trans (hz j hj)) (fun j => (hW.frozen (p := ⟨w.heap.size, j, none⟩) (by show w.heap.size < _; omega)).trans (hf j))).mono ?_
    rintro e w' ⟨nz, he, hnz, h48, h48b, hc, hb⟩
    have hnzD : nz ≤ D := by
      rcases Nat.lt_or_ge D nz with h | h
      · exact absurd (hdz _ (by omega)) (h48 (by omega))
      · exact h
    refine ⟨nz, ?_, hnzD, ?_, fun j hj => ?_, hb⟩
    · rw [he, show ((D + (p - 1) : Nat) : Int) + (1 - (p : Int)) = (D : Int) by omega]
    · rw [digits_eq F D nz hnzD fun j h0 h1 => by rw [← hFd j h1]; exact h48b j h0 (by omega)]
      exact hdec
    · rw [hc j (by omega), hFd j (by omega)]
  have H247 := Lib.hid h247
  have H246 := Lib.hid h246
  obtain ⟨N, hN⟩ : ∃ N, N = D + (p - 1) := ⟨_, rfl⟩
  rw [← hN] at H247 H246
  have HDK := Lib.hid hD
  clear h247 h246 hdec hFd hF hd hnd hdz hz hf HS HTab HT H244 h240 hN hD
  go_wp2_with fail
  have hb13 : Below w.heap.size w w3 := hb1.trans (hb3.mono (by omega))
  go_region_with (first
    | (go_at_call 140; refine (H247.out w3.drew (Below.drew hb13)).mono ?_; rintro e w4 ⟨rfl, rfl⟩)
    | (go_at_call 188; refine (H246.out w3.drew (Below.drew hb3)).mono ?_; rintro e w5 ⟨nz, rfl, hnz, htx, hdc, hb5⟩))
  have HDC := Lib.hid hdc
  have HTX := Lib.hid htx
  have hb5' : Below w.heap.size w w5 := (Below.drew hb13).trans hb5
  have hs5 : w.heap.size < w5.heap.size := by have := hb3.size; have := hb5.size; have e : w3.drew.heap.size = w3.heap.size := rfl; omega
  clear hdc htx hb5 hb13 hb3 hb1 H246 H247
  go_wp2_with fail
  refine (c186n w0 v w.heap.size D nz F w5 (HH.out.below hb5') (HB.trans (hb5'.mono HB.size)) (fun e => by have := (HH.out.1.lt _ e).2; omega) hs5 hD1 hD6 hnz HDC.out).mono ?_
  rintro e w6 ⟨v1, rfl, ho, hb⟩
  go_wp2_with fail
  go_ret
  exact ⟨_, rfl, own_cast ho (by rw [List.append_assoc, HTX.out] <;> simp), hb⟩
end Go.Proofs.YtkhgaenffnoimaaGreatDoor
/- ftoa64 of a whole number below 0. -/
set_option linter.unusedSimpArgs false
set_option linter.unusedVariables false
namespace Go.Proofs.YtkhgaenffnoimaaGreatDoor
open Go.RowKit
attribute [local go_sem] run_store_float
set_option maxRecDepth 100000 in
set_option maxHeartbeats 2000000 in
theorem c163p (w0 : World) (v : Value) (B X Y L M k : Nat) (w : World) (HO : Own w0 w 5 1 v []) (HB : Below w0.heap.size w0 w) (hT : PowTab w) (hT4 : 18 < w0.heap.size) (hTab : Lib.TabIs Tryz.prog w "internal/strconv.uint64pow10" .u64 Lib.pow10Tab)
    (h63 : (B : Int) / 9223372036854775808 = 1) (h52 : (B : Int) / 4503599627370496 = (X : Int)) (hX : X < 4096) (hXL : bits BinOp.and IntKind.i64 (X : Int) 2047 = (L : Int) + 1023) (hY : bits BinOp.and IntKind.u64 (B : Int) 4503599627370495 = (Y : Int)) (hYM : bits BinOp.or IntKind.u64 (Y : Int) 4503599627370496 = (M : Int))
    (hL : L ≤ 19) (hk0 : 2 ^ L ≤ k) (hk1 : k < 2 ^ (L + 1)) (hk6 : k < 1000000) (hM : M = k * 2 ^ (52 - L)) (hM0 : 4503599627370496 ≤ M) (hM1 : M < 9007199254740992) :
    Calls Tryz.prog 163 #[v, .float .f64 B, .int .u8 103, .int .i64 (-1)] w
      (fun e w' => ∃ v1, e = .returned v1 ∧ Own w0 w' 5 1 v1 (rowsB ([45] ++ dec k)) ∧ Below w0.heap.size w0 w') := by
  have HH := Lib.hid HO
  have HT := Lib.hid hT
  have HTab := Lib.hid hTab
  have HK := Lib.hid (And.intro hk0 (And.intro hk1 hM))
  have h244 : ∀ W, Calls Tryz.prog 165 #[.int .u64 M] W (fun e w' => e = .returned (.int .i64 53) ∧ w' = W) := fun W => by
    have h := Tryz.bits_Len64 (M : Int) W (by omega) (by omega)
    rw [show ((M : Int)).toNat = M by omega, bitLen53 M hM0 hM1] at h
    exact h
  have H244 := Lib.hid h244
  clear HO hT hTab hk0 hk1 hM h244
  have h240 := c183 B
  go_enter Tryz.func163, Tryz.ntmps163
  go_wp2_with fail
  go_region
  go_wp2_with fail
  refine (H244.out _).mono ?_
  rintro e w2 ⟨rfl, rfl⟩
  go_wp2_with fail
  rw [show (L : Int) + 1023 + -1023 - 11 - 52 = (L : Int) - 63 by omega]
  generalize hW : World.drew _ = W1
  have hb1 : Below w.heap.size w W1 := by rw [← hW]; exact (by repeat (first | (with_reducible exact Below.refl _ _) | (with_reducible assumption) | ((with_reducible refine Below.alloc ?_ ?_ _); rotate_left; focus (first | exact Nat.le_refl _ | omega | (simp; done) | (simp; omega))) | ((with_reducible refine Below.setCell ?_ ?_ _); rotate_left; focus (first | exact Nat.le_refl _ | omega | (simp; done) | (simp; omega))) | (with_reducible refine Below.drew ?_) | (with_reducible refine below_drewN ?_ _) | ((with_reducible refine below_via (by assumption) ?_ ?_); focus (first | exact Nat.le_refl _ | omega | (simp; done) | (simp; omega)))))
  have hz : ∀ j, j < 32 → W1.cell? ⟨w.heap.size, j, none⟩ = some (.int .u8 0) := fun j hj => by
    rw [← hW]
    show (World.alloc w _).cell? _ = _
    rw [World.cell?_alloc_new]
    have hj2 : j = 0 ∨ j = 1 ∨ j = 2 ∨ j = 3 ∨ j = 4 ∨ j = 5 ∨ j = 6 ∨ j = 7 ∨ j = 8 ∨ j = 9 ∨ j = 10 ∨ j = 11 ∨ j = 12 ∨ j = 13 ∨ j = 14 ∨ j = 15 ∨ j = 16 ∨ j = 17 ∨ j = 18 ∨ j = 19 ∨ j = 20 ∨ j = 21 ∨ j = 22 ∨ j = 23 ∨ j = 24 ∨ j = 25 ∨ j = 26 ∨ j = 27 ∨ j = 28 ∨ j = 29 ∨ j = 30 ∨ j = 31 := by omega
    rcases hj2 with rfl | rfl | rfl | rfl | rfl | rfl | rfl | rfl | rfl | rfl | rfl | rfl | rfl | rfl | rfl | rfl | rfl | rfl | rfl | rfl | rfl | rfl | rfl | rfl | rfl | rfl | rfl | rfl | rfl | rfl | rfl | rfl <;> rfl
  have hf : ∀ j, W1.frozen? ⟨w.heap.size, j, none⟩ = false := fun j => by
    rw [← hW]
    exact frozen_alloc0 _ _ _ _
  have hs1 : W1.heap.size = w.heap.size + 1 := by rw [← hW]; simp
  clear hW
  have hb4 : 18 < w.heap.size := Nat.lt_of_lt_of_le hT4 HB.size
  have HS := sf k L M hL HK.out.1 HK.out.2.1 HK.out.2.2 W1 (HT.out.below hb1 hb4)
  unfold SF at HS
  refine HS.mono ?_
  rintro e w3 ⟨p, hp0, hp1, hd64', he, hb3⟩
  have hk1 : 1 ≤ k := Nat.le_trans (Nat.one_le_pow L 2 (by decide)) HK.out.1
  obtain ⟨D, hD⟩ : ∃ D, D = Lib.nDigits k := ⟨_, rfl⟩
  have hD1 : 1 ≤ D := by rw [hD]; exact Lib.nDigits_pos k
  have hD6 : D ≤ 6 := by rw [hD]; exact nDigits_le6 k hk6
  obtain ⟨d, hd⟩ : ∃ d, d = k * 10 ^ (p - 1) := ⟨_, rfl⟩
  have hnd : Lib.nDigits d = D + (p - 1) := by rw [hd, hD]; exact nDigits_mul k (p - 1) hk1
  have hd1 : 1 ≤ d := by rw [hd]; exact Nat.mul_pos hk1 (Nat.pow_pos (by decide))
  have hd64 : d < 18446744073709551616 := by rw [hd]; exact hd64'
  clear hd64'
  have hdz : ∀ j, j < p - 1 → Lib.dg d j = 48 := fun j hj => by rw [hd]; exact dg_zero k (p - 1) j hj
  rw [← hd] at he
  subst he
  have h247 : ∀ W, Below w.heap.size w W → Calls Tryz.prog 140 #[.int .u64 d] W (fun e w' => e = .returned (.int .i64 ((D + (p - 1) : Nat) : Int)) ∧ w' = W) := fun W hW => by
    have h := Tryz.internal_strconv_numDigits d hd1 hd64 W (tabIs_below HTab.out hW (by omega))
    rw [hnd] at h
    exact h
  obtain ⟨F, hF⟩ : ∃ F : Nat → UInt8, F = fun j => Lib.dg k (D - 1 - j) := ⟨_, rfl⟩
  have hFd : ∀ j, j < D → Lib.dg d (D + (p - 1) - 1 - j) = F j := fun j hj => by
    rw [hF, hd, show D + (p - 1) - 1 - j = (D - 1 - j) + (p - 1) by omega, dg_mul]
  have hdec : (List.range D).map F = dec k := by rw [dec_range, hF, hD]
  have h246 : ∀ W, Below W1.heap.size W1 W → Calls Tryz.prog 188 #[.slice (some ⟨w.heap.size, 0, none⟩) 32 32, .int .u64 d, .int .i64 (1 - (p : Int)), .int .i64 ((D + (p - 1) : Nat) : Int)] W
      (fun e w' => ∃ nz : Nat, e = .returned (.tuple #[.int .i64 D, .int .i64 nz]) ∧ nz ≤ D ∧ ((List.range nz).map F ++ List.replicate (D - nz) 48 = dec k) ∧ (∀ j, j < nz → w'.cell? ⟨w.heap.size, j, none⟩ = some (.int .u8 ((F j).toNat : Int))) ∧ Below w.heap.size W w') := fun W hW => by
    refine (c188 w.heap.size (D + (p - 1)) d (1 - (p : Int)) W (by rw [← hnd]; exact Lib.lt_pow_nDigits d) hd64 (by omega) (by omega) (by omega) (by have := hW.size; omega)
      (fun j hj => (hW.cell (p := ⟨w.heap.size, j, none⟩) (by show w.heap.size < _; omega)).trans (hz j hj)) (fun j => (hW.frozen (p := ⟨w.heap.size, j, none⟩) (by show w.heap.size < _; omega)).trans (hf j))).mono ?_
    rintro e w' ⟨nz, he, hnz, h48, h48b, hc, hb⟩
    have hnzD : nz ≤ D := by
      rcases Nat.lt_or_ge D nz with h | h
      · exact absurd (hdz _ (by omega)) (h48 (by omega))
      · exact h
    refine ⟨nz, ?_, hnzD, ?_, fun j hj => ?_, hb⟩
    · rw [he, show ((D + (p - 1) : Nat) : Int) + (1 - (p : Int)) = (D : Int) by omega]
    · rw [digits_eq F D nz hnzD fun j h0 h1 => by rw [← hFd j h1]; exact h48b j h0 (by omega)]
      exact hdec
    · rw [hc j (by omega), hFd j (by omega)]
  have H247 := Lib.hid h247
  have H246 := Lib.hid h246
  obtain ⟨N, hN⟩ : ∃ N, N = D + (p - 1) := ⟨_, rfl⟩
  rw [← hN] at H247 H246
  have HDK := Lib.hid hD
  clear h247 h246 hdec hFd hF hd hnd hdz hz hf HS HTab HT H244 h240 hN hD
  go_wp2_with fail
  have hb13 : Below w.heap.size w w3 := hb1.trans (hb3.mono (by omega))
  go_region_with (first
    | (go_at_call 140; refine (H247.out w3.drew (Below.drew hb13)).mono ?_; rintro e w4 ⟨rfl, rfl⟩)
    | (go_at_call 188; refine (H246.out w3.drew (Below.drew hb3)).mono ?_; rintro e w5 ⟨nz, rfl, hnz, htx, hdc, hb5⟩))
  have HDC := Lib.hid hdc
  have HTX := Lib.hid htx
  have hb5' : Below w.heap.size w w5 := (Below.drew hb13).trans hb5
  have hs5 : w.heap.size < w5.heap.size := by have := hb3.size; have := hb5.size; have e : w3.drew.heap.size = w3.heap.size := rfl; omega
  clear hdc htx hb5 hb13 hb3 hb1 H246 H247
  go_wp2_with fail
  refine (c186p w0 v w.heap.size D nz F w5 (HH.out.below hb5') (HB.trans (hb5'.mono HB.size)) (fun e => by have := (HH.out.1.lt _ e).2; omega) hs5 hD1 hD6 hnz HDC.out).mono ?_
  rintro e w6 ⟨v1, rfl, ho, hb⟩
  go_wp2_with fail
  go_ret
  exact ⟨_, rfl, own_cast ho (by rw [List.append_assoc, HTX.out] <;> simp), hb⟩
end Go.Proofs.YtkhgaenffnoimaaGreatDoor
