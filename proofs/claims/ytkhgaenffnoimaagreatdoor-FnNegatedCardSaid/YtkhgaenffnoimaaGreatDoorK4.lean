/- shortFloat of a whole number below 10^6 (printed by gensf.py). -/
import Derived.Test.YtkhgaenffnoimaaGreatDoorK3
set_option linter.unusedSimpArgs false
set_option linter.unusedVariables false
namespace Go.Proofs.YtkhgaenffnoimaaGreatDoor
open Go.RowKit
theorem and1_even (x : Nat) (h : x % 2 = 0) (hx : x < 9223372036854775808) : bits BinOp.and IntKind.i64 (x : Int) 1 = 0 := by
  show IntKind.i64.wrap ((BitVec.ofInt 64 (x : Int) &&& BitVec.ofInt 64 ((1 : Nat) : Int)).toNat : Int) = _
  rw [BitVec.toNat_and, ofInt_u64 x (by omega), ofInt_u64 1 (by omega), Nat.and_one_is_mod, h]
  rfl
def SF (m : Nat) (e : Int) (k : Nat) (w : World) : Prop := Calls Tryz.prog 193 #[.int .u64 m, .int .i64 e] w (fun en w' => ∃ p : Nat, 10 ≤ p ∧ p ≤ 16 ∧ k * 10 ^ (p - 1) < 18446744073709551616 ∧ en = .returned (.tuple #[.int .u64 ((k * 10 ^ (p - 1) : Nat) : Int), .int .i64 (1 - (p : Int))]) ∧ Below w.heap.size w w')
theorem sf_s0 (w : World) (hT : PowTab w) : SF 9223372036854775808 (-63) 1 w :=
  (c193s 16 7 (1 * 10 ^ (16 - 1)) (-63) w hT (by decide) (by decide) (by decide) (by decide) (by decide) (by decide) (by decide) (by decide +kernel) (fun u1 u2 h1 h2 => by
    have e : pmOf 16 = 10240000000000000000 := by decide +kernel
    rw [e] at h1 h2
    unfold UQ at h1 h2
    simp only [Nat.reducePow, Nat.reduceMul, Nat.reduceDiv, Nat.reduceAdd, Nat.reduceSub] at h1 h2 ⊢
    omega)).mono fun en w' ⟨h, hb⟩ => ⟨16, by decide, by decide, by decide, h, hb⟩
theorem sf_s1 (w : World) (hT : PowTab w) : SF 9223372036854775808 (-62) 2 w :=
  (c193s 16 6 (2 * 10 ^ (16 - 1)) (-62) w hT (by decide) (by decide) (by decide) (by decide) (by decide) (by decide) (by decide) (by decide +kernel) (fun u1 u2 h1 h2 => by
    have e : pmOf 16 = 10240000000000000000 := by decide +kernel
    rw [e] at h1 h2
    unfold UQ at h1 h2
    simp only [Nat.reducePow, Nat.reduceMul, Nat.reduceDiv, Nat.reduceAdd, Nat.reduceSub] at h1 h2 ⊢
    omega)).mono fun en w' ⟨h, hb⟩ => ⟨16, by decide, by decide, by decide, h, hb⟩
theorem sf_g1 (k : Nat) (h0 : 2 < k) (h1 : k < 4) (w : World) (hT : PowTab w) : SF (k * 4611686018427387904) (-62) k w :=
  (c193g (k * 4611686018427387904) 16 6 (k * 10 ^ (16 - 1)) (-62) w hT (by omega) (by omega) (by omega) (by decide) (by decide)
    (by have e : ((k * 4611686018427387904 : Nat) : Int) / 2048 = ((k * 2251799813685248 : Nat) : Int) := by omega
        rw [e]
        exact and1_even _ (by omega) (by omega)) (by decide) (by decide) (by decide) (by decide) (by decide) (by decide +kernel) (fun u1 u2 h2 h3 => by
    have e : pmOf 16 = 10240000000000000000 := by decide +kernel
    rw [e] at h2 h3
    unfold UQ at h2 h3
    simp only [Nat.reducePow, Nat.reduceMul, Nat.reduceDiv, Nat.reduceAdd, Nat.reduceSub] at h2 h3 ⊢
    omega)).mono fun en w' ⟨h, hb⟩ => ⟨16, by decide, by decide, by simp only [Nat.reduceSub, Nat.reducePow]; omega, h, hb⟩
theorem sf_s2 (w : World) (hT : PowTab w) : SF 9223372036854775808 (-61) 4 w :=
  (c193s 16 5 (4 * 10 ^ (16 - 1)) (-61) w hT (by decide) (by decide) (by decide) (by decide) (by decide) (by decide) (by decide) (by decide +kernel) (fun u1 u2 h1 h2 => by
    have e : pmOf 16 = 10240000000000000000 := by decide +kernel
    rw [e] at h1 h2
    unfold UQ at h1 h2
    simp only [Nat.reducePow, Nat.reduceMul, Nat.reduceDiv, Nat.reduceAdd, Nat.reduceSub] at h1 h2 ⊢
    omega)).mono fun en w' ⟨h, hb⟩ => ⟨16, by decide, by decide, by decide, h, hb⟩
theorem sf_g2 (k : Nat) (h0 : 4 < k) (h1 : k < 8) (w : World) (hT : PowTab w) : SF (k * 2305843009213693952) (-61) k w :=
  (c193g (k * 2305843009213693952) 16 5 (k * 10 ^ (16 - 1)) (-61) w hT (by omega) (by omega) (by omega) (by decide) (by decide)
    (by have e : ((k * 2305843009213693952 : Nat) : Int) / 2048 = ((k * 1125899906842624 : Nat) : Int) := by omega
        rw [e]
        exact and1_even _ (by omega) (by omega)) (by decide) (by decide) (by decide) (by decide) (by decide) (by decide +kernel) (fun u1 u2 h2 h3 => by
    have e : pmOf 16 = 10240000000000000000 := by decide +kernel
    rw [e] at h2 h3
    unfold UQ at h2 h3
    simp only [Nat.reducePow, Nat.reduceMul, Nat.reduceDiv, Nat.reduceAdd, Nat.reduceSub] at h2 h3 ⊢
    omega)).mono fun en w' ⟨h, hb⟩ => ⟨16, by decide, by decide, by simp only [Nat.reduceSub, Nat.reducePow]; omega, h, hb⟩
theorem sf_s3 (w : World) (hT : PowTab w) : SF 9223372036854775808 (-60) 8 w :=
  (c193s 15 8 (8 * 10 ^ (15 - 1)) (-60) w hT (by decide) (by decide) (by decide) (by decide) (by decide) (by decide) (by decide) (by decide +kernel) (fun u1 u2 h1 h2 => by
    have e : pmOf 15 = 16384000000000000000 := by decide +kernel
    rw [e] at h1 h2
    unfold UQ at h1 h2
    simp only [Nat.reducePow, Nat.reduceMul, Nat.reduceDiv, Nat.reduceAdd, Nat.reduceSub] at h1 h2 ⊢
    omega)).mono fun en w' ⟨h, hb⟩ => ⟨15, by decide, by decide, by decide, h, hb⟩
theorem sf_g3 (k : Nat) (h0 : 8 < k) (h1 : k < 16) (w : World) (hT : PowTab w) : SF (k * 1152921504606846976) (-60) k w :=
  (c193g (k * 1152921504606846976) 15 8 (k * 10 ^ (15 - 1)) (-60) w hT (by omega) (by omega) (by omega) (by decide) (by decide)
    (by have e : ((k * 1152921504606846976 : Nat) : Int) / 2048 = ((k * 562949953421312 : Nat) : Int) := by omega
        rw [e]
        exact and1_even _ (by omega) (by omega)) (by decide) (by decide) (by decide) (by decide) (by decide) (by decide +kernel) (fun u1 u2 h2 h3 => by
    have e : pmOf 15 = 16384000000000000000 := by decide +kernel
    rw [e] at h2 h3
    unfold UQ at h2 h3
    simp only [Nat.reducePow, Nat.reduceMul, Nat.reduceDiv, Nat.reduceAdd, Nat.reduceSub] at h2 h3 ⊢
    omega)).mono fun en w' ⟨h, hb⟩ => ⟨15, by decide, by decide, by simp only [Nat.reduceSub, Nat.reducePow]; omega, h, hb⟩
theorem sf_s4 (w : World) (hT : PowTab w) : SF 9223372036854775808 (-59) 16 w :=
  (c193s 15 7 (16 * 10 ^ (15 - 1)) (-59) w hT (by decide) (by decide) (by decide) (by decide) (by decide) (by decide) (by decide) (by decide +kernel) (fun u1 u2 h1 h2 => by
    have e : pmOf 15 = 16384000000000000000 := by decide +kernel
    rw [e] at h1 h2
    unfold UQ at h1 h2
    simp only [Nat.reducePow, Nat.reduceMul, Nat.reduceDiv, Nat.reduceAdd, Nat.reduceSub] at h1 h2 ⊢
    omega)).mono fun en w' ⟨h, hb⟩ => ⟨15, by decide, by decide, by decide, h, hb⟩
theorem sf_g4 (k : Nat) (h0 : 16 < k) (h1 : k < 32) (w : World) (hT : PowTab w) : SF (k * 576460752303423488) (-59) k w :=
  (c193g (k * 576460752303423488) 15 7 (k * 10 ^ (15 - 1)) (-59) w hT (by omega) (by omega) (by omega) (by decide) (by decide)
    (by have e : ((k * 576460752303423488 : Nat) : Int) / 2048 = ((k * 281474976710656 : Nat) : Int) := by omega
        rw [e]
        exact and1_even _ (by omega) (by omega)) (by decide) (by decide) (by decide) (by decide) (by decide) (by decide +kernel) (fun u1 u2 h2 h3 => by
    have e : pmOf 15 = 16384000000000000000 := by decide +kernel
    rw [e] at h2 h3
    unfold UQ at h2 h3
    simp only [Nat.reducePow, Nat.reduceMul, Nat.reduceDiv, Nat.reduceAdd, Nat.reduceSub] at h2 h3 ⊢
    omega)).mono fun en w' ⟨h, hb⟩ => ⟨15, by decide, by decide, by simp only [Nat.reduceSub, Nat.reducePow]; omega, h, hb⟩
theorem sf_s5 (w : World) (hT : PowTab w) : SF 9223372036854775808 (-58) 32 w :=
  (c193s 15 6 (32 * 10 ^ (15 - 1)) (-58) w hT (by decide) (by decide) (by decide) (by decide) (by decide) (by decide) (by decide) (by decide +kernel) (fun u1 u2 h1 h2 => by
    have e : pmOf 15 = 16384000000000000000 := by decide +kernel
    rw [e] at h1 h2
    unfold UQ at h1 h2
    simp only [Nat.reducePow, Nat.reduceMul, Nat.reduceDiv, Nat.reduceAdd, Nat.reduceSub] at h1 h2 ⊢
    omega)).mono fun en w' ⟨h, hb⟩ => ⟨15, by decide, by decide, by decide, h, hb⟩
theorem sf_g5 (k : Nat) (h0 : 32 < k) (h1 : k < 64) (w : World) (hT : PowTab w) : SF (k * 288230376151711744) (-58) k w :=
  (c193g (k * 288230376151711744) 15 6 (k * 10 ^ (15 - 1)) (-58) w hT (by omega) (by omega) (by omega) (by decide) (by decide)
    (by have e : ((k * 288230376151711744 : Nat) : Int) / 2048 = ((k * 140737488355328 : Nat) : Int) := by omega
        rw [e]
        exact and1_even _ (by omega) (by omega)) (by decide) (by decide) (by decide) (by decide) (by decide) (by decide +kernel) (fun u1 u2 h2 h3 => by
    have e : pmOf 15 = 16384000000000000000 := by decide +kernel
    rw [e] at h2 h3
    unfold UQ at h2 h3
    simp only [Nat.reducePow, Nat.reduceMul, Nat.reduceDiv, Nat.reduceAdd, Nat.reduceSub] at h2 h3 ⊢
    omega)).mono fun en w' ⟨h, hb⟩ => ⟨15, by decide, by decide, by simp only [Nat.reduceSub, Nat.reducePow]; omega, h, hb⟩
theorem sf_s6 (w : World) (hT : PowTab w) : SF 9223372036854775808 (-57) 64 w :=
  (c193s 14 8 (64 * 10 ^ (14 - 1)) (-57) w hT (by decide) (by decide) (by decide) (by decide) (by decide) (by decide) (by decide) (by decide +kernel) (fun u1 u2 h1 h2 => by
    have e : pmOf 14 = 13107200000000000000 := by decide +kernel
    rw [e] at h1 h2
    unfold UQ at h1 h2
    simp only [Nat.reducePow, Nat.reduceMul, Nat.reduceDiv, Nat.reduceAdd, Nat.reduceSub] at h1 h2 ⊢
    omega)).mono fun en w' ⟨h, hb⟩ => ⟨14, by decide, by decide, by decide, h, hb⟩
theorem sf_g6 (k : Nat) (h0 : 64 < k) (h1 : k < 128) (w : World) (hT : PowTab w) : SF (k * 144115188075855872) (-57) k w :=
  (c193g (k * 144115188075855872) 14 8 (k * 10 ^ (14 - 1)) (-57) w hT (by omega) (by omega) (by omega) (by decide) (by decide)
    (by have e : ((k * 144115188075855872 : Nat) : Int) / 2048 = ((k * 70368744177664 : Nat) : Int) := by omega
        rw [e]
        exact and1_even _ (by omega) (by omega)) (by decide) (by decide) (by decide) (by decide) (by decide) (by decide +kernel) (fun u1 u2 h2 h3 => by
    have e : pmOf 14 = 13107200000000000000 := by decide +kernel
    rw [e] at h2 h3
    unfold UQ at h2 h3
    simp only [Nat.reducePow, Nat.reduceMul, Nat.reduceDiv, Nat.reduceAdd, Nat.reduceSub] at h2 h3 ⊢
    omega)).mono fun en w' ⟨h, hb⟩ => ⟨14, by decide, by decide, by simp only [Nat.reduceSub, Nat.reducePow]; omega, h, hb⟩
theorem sf_s7 (w : World) (hT : PowTab w) : SF 9223372036854775808 (-56) 128 w :=
  (c193s 14 7 (128 * 10 ^ (14 - 1)) (-56) w hT (by decide) (by decide) (by decide) (by decide) (by decide) (by decide) (by decide) (by decide +kernel) (fun u1 u2 h1 h2 => by
    have e : pmOf 14 = 13107200000000000000 := by decide +kernel
    rw [e] at h1 h2
    unfold UQ at h1 h2
    simp only [Nat.reducePow, Nat.reduceMul, Nat.reduceDiv, Nat.reduceAdd, Nat.reduceSub] at h1 h2 ⊢
    omega)).mono fun en w' ⟨h, hb⟩ => ⟨14, by decide, by decide, by decide, h, hb⟩
theorem sf_g7 (k : Nat) (h0 : 128 < k) (h1 : k < 256) (w : World) (hT : PowTab w) : SF (k * 72057594037927936) (-56) k w :=
  (c193g (k * 72057594037927936) 14 7 (k * 10 ^ (14 - 1)) (-56) w hT (by omega) (by omega) (by omega) (by decide) (by decide)
    (by have e : ((k * 72057594037927936 : Nat) : Int) / 2048 = ((k * 35184372088832 : Nat) : Int) := by omega
        rw [e]
        exact and1_even _ (by omega) (by omega)) (by decide) (by decide) (by decide) (by decide) (by decide) (by decide +kernel) (fun u1 u2 h2 h3 => by
    have e : pmOf 14 = 13107200000000000000 := by decide +kernel
    rw [e] at h2 h3
    unfold UQ at h2 h3
    simp only [Nat.reducePow, Nat.reduceMul, Nat.reduceDiv, Nat.reduceAdd, Nat.reduceSub] at h2 h3 ⊢
    omega)).mono fun en w' ⟨h, hb⟩ => ⟨14, by decide, by decide, by simp only [Nat.reduceSub, Nat.reducePow]; omega, h, hb⟩
theorem sf_s8 (w : World) (hT : PowTab w) : SF 9223372036854775808 (-55) 256 w :=
  (c193s 14 6 (256 * 10 ^ (14 - 1)) (-55) w hT (by decide) (by decide) (by decide) (by decide) (by decide) (by decide) (by decide) (by decide +kernel) (fun u1 u2 h1 h2 => by
    have e : pmOf 14 = 13107200000000000000 := by decide +kernel
    rw [e] at h1 h2
    unfold UQ at h1 h2
    simp only [Nat.reducePow, Nat.reduceMul, Nat.reduceDiv, Nat.reduceAdd, Nat.reduceSub] at h1 h2 ⊢
    omega)).mono fun en w' ⟨h, hb⟩ => ⟨14, by decide, by decide, by decide, h, hb⟩
theorem sf_g8 (k : Nat) (h0 : 256 < k) (h1 : k < 512) (w : World) (hT : PowTab w) : SF (k * 36028797018963968) (-55) k w :=
  (c193g (k * 36028797018963968) 14 6 (k * 10 ^ (14 - 1)) (-55) w hT (by omega) (by omega) (by omega) (by decide) (by decide)
    (by have e : ((k * 36028797018963968 : Nat) : Int) / 2048 = ((k * 17592186044416 : Nat) : Int) := by omega
        rw [e]
        exact and1_even _ (by omega) (by omega)) (by decide) (by decide) (by decide) (by decide) (by decide) (by decide +kernel) (fun u1 u2 h2 h3 => by
    have e : pmOf 14 = 13107200000000000000 := by decide +kernel
    rw [e] at h2 h3
    unfold UQ at h2 h3
    simp only [Nat.reducePow, Nat.reduceMul, Nat.reduceDiv, Nat.reduceAdd, Nat.reduceSub] at h2 h3 ⊢
    omega)).mono fun en w' ⟨h, hb⟩ => ⟨14, by decide, by decide, by simp only [Nat.reduceSub, Nat.reducePow]; omega, h, hb⟩
theorem sf_s9 (w : World) (hT : PowTab w) : SF 9223372036854775808 (-54) 512 w :=
  (c193s 14 5 (512 * 10 ^ (14 - 1)) (-54) w hT (by decide) (by decide) (by decide) (by decide) (by decide) (by decide) (by decide) (by decide +kernel) (fun u1 u2 h1 h2 => by
    have e : pmOf 14 = 13107200000000000000 := by decide +kernel
    rw [e] at h1 h2
    unfold UQ at h1 h2
    simp only [Nat.reducePow, Nat.reduceMul, Nat.reduceDiv, Nat.reduceAdd, Nat.reduceSub] at h1 h2 ⊢
    omega)).mono fun en w' ⟨h, hb⟩ => ⟨14, by decide, by decide, by decide, h, hb⟩
theorem sf_g9 (k : Nat) (h0 : 512 < k) (h1 : k < 1024) (w : World) (hT : PowTab w) : SF (k * 18014398509481984) (-54) k w :=
  (c193g (k * 18014398509481984) 13 8 (k * 10 ^ (13 - 1)) (-54) w hT (by omega) (by omega) (by omega) (by decide) (by decide)
    (by have e : ((k * 18014398509481984 : Nat) : Int) / 2048 = ((k * 8796093022208 : Nat) : Int) := by omega
        rw [e]
        exact and1_even _ (by omega) (by omega)) (by decide) (by decide) (by decide) (by decide) (by decide) (by decide +kernel) (fun u1 u2 h2 h3 => by
    have e : pmOf 13 = 10485760000000000000 := by decide +kernel
    rw [e] at h2 h3
    unfold UQ at h2 h3
    simp only [Nat.reducePow, Nat.reduceMul, Nat.reduceDiv, Nat.reduceAdd, Nat.reduceSub] at h2 h3 ⊢
    omega)).mono fun en w' ⟨h, hb⟩ => ⟨13, by decide, by decide, by simp only [Nat.reduceSub, Nat.reducePow]; omega, h, hb⟩
theorem sf_s10 (w : World) (hT : PowTab w) : SF 9223372036854775808 (-53) 1024 w :=
  (c193s 13 7 (1024 * 10 ^ (13 - 1)) (-53) w hT (by decide) (by decide) (by decide) (by decide) (by decide) (by decide) (by decide) (by decide +kernel) (fun u1 u2 h1 h2 => by
    have e : pmOf 13 = 10485760000000000000 := by decide +kernel
    rw [e] at h1 h2
    unfold UQ at h1 h2
    simp only [Nat.reducePow, Nat.reduceMul, Nat.reduceDiv, Nat.reduceAdd, Nat.reduceSub] at h1 h2 ⊢
    omega)).mono fun en w' ⟨h, hb⟩ => ⟨13, by decide, by decide, by decide, h, hb⟩
theorem sf_g10 (k : Nat) (h0 : 1024 < k) (h1 : k < 2048) (w : World) (hT : PowTab w) : SF (k * 9007199254740992) (-53) k w :=
  (c193g (k * 9007199254740992) 13 7 (k * 10 ^ (13 - 1)) (-53) w hT (by omega) (by omega) (by omega) (by decide) (by decide)
    (by have e : ((k * 9007199254740992 : Nat) : Int) / 2048 = ((k * 4398046511104 : Nat) : Int) := by omega
        rw [e]
        exact and1_even _ (by omega) (by omega)) (by decide) (by decide) (by decide) (by decide) (by decide) (by decide +kernel) (fun u1 u2 h2 h3 => by
    have e : pmOf 13 = 10485760000000000000 := by decide +kernel
    rw [e] at h2 h3
    unfold UQ at h2 h3
    simp only [Nat.reducePow, Nat.reduceMul, Nat.reduceDiv, Nat.reduceAdd, Nat.reduceSub] at h2 h3 ⊢
    omega)).mono fun en w' ⟨h, hb⟩ => ⟨13, by decide, by decide, by simp only [Nat.reduceSub, Nat.reducePow]; omega, h, hb⟩
theorem sf_s11 (w : World) (hT : PowTab w) : SF 9223372036854775808 (-52) 2048 w :=
  (c193s 13 6 (2048 * 10 ^ (13 - 1)) (-52) w hT (by decide) (by decide) (by decide) (by decide) (by decide) (by decide) (by decide) (by decide +kernel) (fun u1 u2 h1 h2 => by
    have e : pmOf 13 = 10485760000000000000 := by decide +kernel
    rw [e] at h1 h2
    unfold UQ at h1 h2
    simp only [Nat.reducePow, Nat.reduceMul, Nat.reduceDiv, Nat.reduceAdd, Nat.reduceSub] at h1 h2 ⊢
    omega)).mono fun en w' ⟨h, hb⟩ => ⟨13, by decide, by decide, by decide, h, hb⟩
theorem sf_g11 (k : Nat) (h0 : 2048 < k) (h1 : k < 4096) (w : World) (hT : PowTab w) : SF (k * 4503599627370496) (-52) k w :=
  (c193g (k * 4503599627370496) 13 6 (k * 10 ^ (13 - 1)) (-52) w hT (by omega) (by omega) (by omega) (by decide) (by decide)
    (by have e : ((k * 4503599627370496 : Nat) : Int) / 2048 = ((k * 2199023255552 : Nat) : Int) := by omega
        rw [e]
        exact and1_even _ (by omega) (by omega)) (by decide) (by decide) (by decide) (by decide) (by decide) (by decide +kernel) (fun u1 u2 h2 h3 => by
    have e : pmOf 13 = 10485760000000000000 := by decide +kernel
    rw [e] at h2 h3
    unfold UQ at h2 h3
    simp only [Nat.reducePow, Nat.reduceMul, Nat.reduceDiv, Nat.reduceAdd, Nat.reduceSub] at h2 h3 ⊢
    omega)).mono fun en w' ⟨h, hb⟩ => ⟨13, by decide, by decide, by simp only [Nat.reduceSub, Nat.reducePow]; omega, h, hb⟩
theorem sf_s12 (w : World) (hT : PowTab w) : SF 9223372036854775808 (-51) 4096 w :=
  (c193s 13 5 (4096 * 10 ^ (13 - 1)) (-51) w hT (by decide) (by decide) (by decide) (by decide) (by decide) (by decide) (by decide) (by decide +kernel) (fun u1 u2 h1 h2 => by
    have e : pmOf 13 = 10485760000000000000 := by decide +kernel
    rw [e] at h1 h2
    unfold UQ at h1 h2
    simp only [Nat.reducePow, Nat.reduceMul, Nat.reduceDiv, Nat.reduceAdd, Nat.reduceSub] at h1 h2 ⊢
    omega)).mono fun en w' ⟨h, hb⟩ => ⟨13, by decide, by decide, by decide, h, hb⟩
theorem sf_g12 (k : Nat) (h0 : 4096 < k) (h1 : k < 8192) (w : World) (hT : PowTab w) : SF (k * 2251799813685248) (-51) k w :=
  (c193g (k * 2251799813685248) 13 5 (k * 10 ^ (13 - 1)) (-51) w hT (by omega) (by omega) (by omega) (by decide) (by decide)
    (by have e : ((k * 2251799813685248 : Nat) : Int) / 2048 = ((k * 1099511627776 : Nat) : Int) := by omega
        rw [e]
        exact and1_even _ (by omega) (by omega)) (by decide) (by decide) (by decide) (by decide) (by decide) (by decide +kernel) (fun u1 u2 h2 h3 => by
    have e : pmOf 13 = 10485760000000000000 := by decide +kernel
    rw [e] at h2 h3
    unfold UQ at h2 h3
    simp only [Nat.reducePow, Nat.reduceMul, Nat.reduceDiv, Nat.reduceAdd, Nat.reduceSub] at h2 h3 ⊢
    omega)).mono fun en w' ⟨h, hb⟩ => ⟨13, by decide, by decide, by simp only [Nat.reduceSub, Nat.reducePow]; omega, h, hb⟩
theorem sf_s13 (w : World) (hT : PowTab w) : SF 9223372036854775808 (-50) 8192 w :=
  (c193s 12 8 (8192 * 10 ^ (12 - 1)) (-50) w hT (by decide) (by decide) (by decide) (by decide) (by decide) (by decide) (by decide) (by decide +kernel) (fun u1 u2 h1 h2 => by
    have e : pmOf 12 = 16777216000000000000 := by decide +kernel
    rw [e] at h1 h2
    unfold UQ at h1 h2
    simp only [Nat.reducePow, Nat.reduceMul, Nat.reduceDiv, Nat.reduceAdd, Nat.reduceSub] at h1 h2 ⊢
    omega)).mono fun en w' ⟨h, hb⟩ => ⟨12, by decide, by decide, by decide, h, hb⟩
theorem sf_g13 (k : Nat) (h0 : 8192 < k) (h1 : k < 16384) (w : World) (hT : PowTab w) : SF (k * 1125899906842624) (-50) k w :=
  (c193g (k * 1125899906842624) 12 8 (k * 10 ^ (12 - 1)) (-50) w hT (by omega) (by omega) (by omega) (by decide) (by decide)
    (by have e : ((k * 1125899906842624 : Nat) : Int) / 2048 = ((k * 549755813888 : Nat) : Int) := by omega
        rw [e]
        exact and1_even _ (by omega) (by omega)) (by decide) (by decide) (by decide) (by decide) (by decide) (by decide +kernel) (fun u1 u2 h2 h3 => by
    have e : pmOf 12 = 16777216000000000000 := by decide +kernel
    rw [e] at h2 h3
    unfold UQ at h2 h3
    simp only [Nat.reducePow, Nat.reduceMul, Nat.reduceDiv, Nat.reduceAdd, Nat.reduceSub] at h2 h3 ⊢
    omega)).mono fun en w' ⟨h, hb⟩ => ⟨12, by decide, by decide, by simp only [Nat.reduceSub, Nat.reducePow]; omega, h, hb⟩
theorem sf_s14 (w : World) (hT : PowTab w) : SF 9223372036854775808 (-49) 16384 w :=
  (c193s 12 7 (16384 * 10 ^ (12 - 1)) (-49) w hT (by decide) (by decide) (by decide) (by decide) (by decide) (by decide) (by decide) (by decide +kernel) (fun u1 u2 h1 h2 => by
    have e : pmOf 12 = 16777216000000000000 := by decide +kernel
    rw [e] at h1 h2
    unfold UQ at h1 h2
    simp only [Nat.reducePow, Nat.reduceMul, Nat.reduceDiv, Nat.reduceAdd, Nat.reduceSub] at h1 h2 ⊢
    omega)).mono fun en w' ⟨h, hb⟩ => ⟨12, by decide, by decide, by decide, h, hb⟩
theorem sf_g14 (k : Nat) (h0 : 16384 < k) (h1 : k < 32768) (w : World) (hT : PowTab w) : SF (k * 562949953421312) (-49) k w :=
  (c193g (k * 562949953421312) 12 7 (k * 10 ^ (12 - 1)) (-49) w hT (by omega) (by omega) (by omega) (by decide) (by decide)
    (by have e : ((k * 562949953421312 : Nat) : Int) / 2048 = ((k * 274877906944 : Nat) : Int) := by omega
        rw [e]
        exact and1_even _ (by omega) (by omega)) (by decide) (by decide) (by decide) (by decide) (by decide) (by decide +kernel) (fun u1 u2 h2 h3 => by
    have e : pmOf 12 = 16777216000000000000 := by decide +kernel
    rw [e] at h2 h3
    unfold UQ at h2 h3
    simp only [Nat.reducePow, Nat.reduceMul, Nat.reduceDiv, Nat.reduceAdd, Nat.reduceSub] at h2 h3 ⊢
    omega)).mono fun en w' ⟨h, hb⟩ => ⟨12, by decide, by decide, by simp only [Nat.reduceSub, Nat.reducePow]; omega, h, hb⟩
theorem sf_s15 (w : World) (hT : PowTab w) : SF 9223372036854775808 (-48) 32768 w :=
  (c193s 12 6 (32768 * 10 ^ (12 - 1)) (-48) w hT (by decide) (by decide) (by decide) (by decide) (by decide) (by decide) (by decide) (by decide +kernel) (fun u1 u2 h1 h2 => by
    have e : pmOf 12 = 16777216000000000000 := by decide +kernel
    rw [e] at h1 h2
    unfold UQ at h1 h2
    simp only [Nat.reducePow, Nat.reduceMul, Nat.reduceDiv, Nat.reduceAdd, Nat.reduceSub] at h1 h2 ⊢
    omega)).mono fun en w' ⟨h, hb⟩ => ⟨12, by decide, by decide, by decide, h, hb⟩
theorem sf_g15 (k : Nat) (h0 : 32768 < k) (h1 : k < 65536) (w : World) (hT : PowTab w) : SF (k * 281474976710656) (-48) k w :=
  (c193g (k * 281474976710656) 12 6 (k * 10 ^ (12 - 1)) (-48) w hT (by omega) (by omega) (by omega) (by decide) (by decide)
    (by have e : ((k * 281474976710656 : Nat) : Int) / 2048 = ((k * 137438953472 : Nat) : Int) := by omega
        rw [e]
        exact and1_even _ (by omega) (by omega)) (by decide) (by decide) (by decide) (by decide) (by decide) (by decide +kernel) (fun u1 u2 h2 h3 => by
    have e : pmOf 12 = 16777216000000000000 := by decide +kernel
    rw [e] at h2 h3
    unfold UQ at h2 h3
    simp only [Nat.reducePow, Nat.reduceMul, Nat.reduceDiv, Nat.reduceAdd, Nat.reduceSub] at h2 h3 ⊢
    omega)).mono fun en w' ⟨h, hb⟩ => ⟨12, by decide, by decide, by simp only [Nat.reduceSub, Nat.reducePow]; omega, h, hb⟩
theorem sf_s16 (w : World) (hT : PowTab w) : SF 9223372036854775808 (-47) 65536 w :=
  (c193s 11 8 (65536 * 10 ^ (11 - 1)) (-47) w hT (by decide) (by decide) (by decide) (by decide) (by decide) (by decide) (by decide) (by decide +kernel) (fun u1 u2 h1 h2 => by
    have e : pmOf 11 = 13421772800000000000 := by decide +kernel
    rw [e] at h1 h2
    unfold UQ at h1 h2
    simp only [Nat.reducePow, Nat.reduceMul, Nat.reduceDiv, Nat.reduceAdd, Nat.reduceSub] at h1 h2 ⊢
    omega)).mono fun en w' ⟨h, hb⟩ => ⟨11, by decide, by decide, by decide, h, hb⟩
theorem sf_g16 (k : Nat) (h0 : 65536 < k) (h1 : k < 131072) (w : World) (hT : PowTab w) : SF (k * 140737488355328) (-47) k w :=
  (c193g (k * 140737488355328) 11 8 (k * 10 ^ (11 - 1)) (-47) w hT (by omega) (by omega) (by omega) (by decide) (by decide)
    (by have e : ((k * 140737488355328 : Nat) : Int) / 2048 = ((k * 68719476736 : Nat) : Int) := by omega
        rw [e]
        exact and1_even _ (by omega) (by omega)) (by decide) (by decide) (by decide) (by decide) (by decide) (by decide +kernel) (fun u1 u2 h2 h3 => by
    have e : pmOf 11 = 13421772800000000000 := by decide +kernel
    rw [e] at h2 h3
    unfold UQ at h2 h3
    simp only [Nat.reducePow, Nat.reduceMul, Nat.reduceDiv, Nat.reduceAdd, Nat.reduceSub] at h2 h3 ⊢
    omega)).mono fun en w' ⟨h, hb⟩ => ⟨11, by decide, by decide, by simp only [Nat.reduceSub, Nat.reducePow]; omega, h, hb⟩
theorem sf_s17 (w : World) (hT : PowTab w) : SF 9223372036854775808 (-46) 131072 w :=
  (c193s 11 7 (131072 * 10 ^ (11 - 1)) (-46) w hT (by decide) (by decide) (by decide) (by decide) (by decide) (by decide) (by decide) (by decide +kernel) (fun u1 u2 h1 h2 => by
    have e : pmOf 11 = 13421772800000000000 := by decide +kernel
    rw [e] at h1 h2
    unfold UQ at h1 h2
    simp only [Nat.reducePow, Nat.reduceMul, Nat.reduceDiv, Nat.reduceAdd, Nat.reduceSub] at h1 h2 ⊢
    omega)).mono fun en w' ⟨h, hb⟩ => ⟨11, by decide, by decide, by decide, h, hb⟩
theorem sf_g17 (k : Nat) (h0 : 131072 < k) (h1 : k < 262144) (w : World) (hT : PowTab w) : SF (k * 70368744177664) (-46) k w :=
  (c193g (k * 70368744177664) 11 7 (k * 10 ^ (11 - 1)) (-46) w hT (by omega) (by omega) (by omega) (by decide) (by decide)
    (by have e : ((k * 70368744177664 : Nat) : Int) / 2048 = ((k * 34359738368 : Nat) : Int) := by omega
        rw [e]
        exact and1_even _ (by omega) (by omega)) (by decide) (by decide) (by decide) (by decide) (by decide) (by decide +kernel) (fun u1 u2 h2 h3 => by
    have e : pmOf 11 = 13421772800000000000 := by decide +kernel
    rw [e] at h2 h3
    unfold UQ at h2 h3
    simp only [Nat.reducePow, Nat.reduceMul, Nat.reduceDiv, Nat.reduceAdd, Nat.reduceSub] at h2 h3 ⊢
    omega)).mono fun en w' ⟨h, hb⟩ => ⟨11, by decide, by decide, by simp only [Nat.reduceSub, Nat.reducePow]; omega, h, hb⟩
theorem sf_s18 (w : World) (hT : PowTab w) : SF 9223372036854775808 (-45) 262144 w :=
  (c193s 11 6 (262144 * 10 ^ (11 - 1)) (-45) w hT (by decide) (by decide) (by decide) (by decide) (by decide) (by decide) (by decide) (by decide +kernel) (fun u1 u2 h1 h2 => by
    have e : pmOf 11 = 13421772800000000000 := by decide +kernel
    rw [e] at h1 h2
    unfold UQ at h1 h2
    simp only [Nat.reducePow, Nat.reduceMul, Nat.reduceDiv, Nat.reduceAdd, Nat.reduceSub] at h1 h2 ⊢
    omega)).mono fun en w' ⟨h, hb⟩ => ⟨11, by decide, by decide, by decide, h, hb⟩
theorem sf_g18 (k : Nat) (h0 : 262144 < k) (h1 : k < 524288) (w : World) (hT : PowTab w) : SF (k * 35184372088832) (-45) k w :=
  (c193g (k * 35184372088832) 11 6 (k * 10 ^ (11 - 1)) (-45) w hT (by omega) (by omega) (by omega) (by decide) (by decide)
    (by have e : ((k * 35184372088832 : Nat) : Int) / 2048 = ((k * 17179869184 : Nat) : Int) := by omega
        rw [e]
        exact and1_even _ (by omega) (by omega)) (by decide) (by decide) (by decide) (by decide) (by decide) (by decide +kernel) (fun u1 u2 h2 h3 => by
    have e : pmOf 11 = 13421772800000000000 := by decide +kernel
    rw [e] at h2 h3
    unfold UQ at h2 h3
    simp only [Nat.reducePow, Nat.reduceMul, Nat.reduceDiv, Nat.reduceAdd, Nat.reduceSub] at h2 h3 ⊢
    omega)).mono fun en w' ⟨h, hb⟩ => ⟨11, by decide, by decide, by simp only [Nat.reduceSub, Nat.reducePow]; omega, h, hb⟩
theorem sf_s19 (w : World) (hT : PowTab w) : SF 9223372036854775808 (-44) 524288 w :=
  (c193s 11 5 (524288 * 10 ^ (11 - 1)) (-44) w hT (by decide) (by decide) (by decide) (by decide) (by decide) (by decide) (by decide) (by decide +kernel) (fun u1 u2 h1 h2 => by
    have e : pmOf 11 = 13421772800000000000 := by decide +kernel
    rw [e] at h1 h2
    unfold UQ at h1 h2
    simp only [Nat.reducePow, Nat.reduceMul, Nat.reduceDiv, Nat.reduceAdd, Nat.reduceSub] at h1 h2 ⊢
    omega)).mono fun en w' ⟨h, hb⟩ => ⟨11, by decide, by decide, by decide, h, hb⟩
theorem sf_g19 (k : Nat) (h0 : 524288 < k) (h1 : k < 1048576) (w : World) (hT : PowTab w) : SF (k * 17592186044416) (-44) k w :=
  (c193g (k * 17592186044416) 10 8 (k * 10 ^ (10 - 1)) (-44) w hT (by omega) (by omega) (by omega) (by decide) (by decide)
    (by have e : ((k * 17592186044416 : Nat) : Int) / 2048 = ((k * 8589934592 : Nat) : Int) := by omega
        rw [e]
        exact and1_even _ (by omega) (by omega)) (by decide) (by decide) (by decide) (by decide) (by decide) (by decide +kernel) (fun u1 u2 h2 h3 => by
    have e : pmOf 10 = 10737418240000000000 := by decide +kernel
    rw [e] at h2 h3
    unfold UQ at h2 h3
    simp only [Nat.reducePow, Nat.reduceMul, Nat.reduceDiv, Nat.reduceAdd, Nat.reduceSub] at h2 h3 ⊢
    omega)).mono fun en w' ⟨h, hb⟩ => ⟨10, by decide, by decide, by simp only [Nat.reduceSub, Nat.reducePow]; omega, h, hb⟩
theorem sf (k L M : Nat) (hL : L ≤ 19) (h0 : 2 ^ L ≤ k) (h1 : k < 2 ^ (L + 1)) (hM : M = k * 2 ^ (52 - L)) (w : World) (hT : PowTab w) : SF (M * 2048) ((L : Int) - 63) k w := by
  have hc : L = 0 ∨ L = 1 ∨ L = 2 ∨ L = 3 ∨ L = 4 ∨ L = 5 ∨ L = 6 ∨ L = 7 ∨ L = 8 ∨ L = 9 ∨ L = 10 ∨ L = 11 ∨ L = 12 ∨ L = 13 ∨ L = 14 ∨ L = 15 ∨ L = 16 ∨ L = 17 ∨ L = 18 ∨ L = 19 := by omega
  rcases hc with rfl | rfl | rfl | rfl | rfl | rfl | rfl | rfl | rfl | rfl | rfl | rfl | rfl | rfl | rfl | rfl | rfl | rfl | rfl | rfl
  · obtain rfl : k = 1 := by simp only [Nat.reducePow, Nat.reduceAdd] at h0 h1; omega
    have e : M * 2048 = 9223372036854775808 := by rw [hM]
    rw [e]
    exact sf_s0 w hT
  · simp only [Nat.reducePow, Nat.reduceAdd, Nat.reduceSub] at h0 h1 hM
    by_cases hk : k = 2
    · subst hk
      have e : M * 2048 = 9223372036854775808 := by omega
      rw [e]
      exact sf_s1 w hT
    · have e : M * 2048 = k * 4611686018427387904 := by omega
      rw [e]
      exact sf_g1 k (by omega) h1 w hT
  · simp only [Nat.reducePow, Nat.reduceAdd, Nat.reduceSub] at h0 h1 hM
    by_cases hk : k = 4
    · subst hk
      have e : M * 2048 = 9223372036854775808 := by omega
      rw [e]
      exact sf_s2 w hT
    · have e : M * 2048 = k * 2305843009213693952 := by omega
      rw [e]
      exact sf_g2 k (by omega) h1 w hT
  · simp only [Nat.reducePow, Nat.reduceAdd, Nat.reduceSub] at h0 h1 hM
    by_cases hk : k = 8
    · subst hk
      have e : M * 2048 = 9223372036854775808 := by omega
      rw [e]
      exact sf_s3 w hT
    · have e : M * 2048 = k * 1152921504606846976 := by omega
      rw [e]
      exact sf_g3 k (by omega) h1 w hT
  · simp only [Nat.reducePow, Nat.reduceAdd, Nat.reduceSub] at h0 h1 hM
    by_cases hk : k = 16
    · subst hk
      have e : M * 2048 = 9223372036854775808 := by omega
      rw [e]
      exact sf_s4 w hT
    · have e : M * 2048 = k * 576460752303423488 := by omega
      rw [e]
      exact sf_g4 k (by omega) h1 w hT
  · simp only [Nat.reducePow, Nat.reduceAdd, Nat.reduceSub] at h0 h1 hM
    by_cases hk : k = 32
    · subst hk
      have e : M * 2048 = 9223372036854775808 := by omega
      rw [e]
      exact sf_s5 w hT
    · have e : M * 2048 = k * 288230376151711744 := by omega
      rw [e]
      exact sf_g5 k (by omega) h1 w hT
  · simp only [Nat.reducePow, Nat.reduceAdd, Nat.reduceSub] at h0 h1 hM
    by_cases hk : k = 64
    · subst hk
      have e : M * 2048 = 9223372036854775808 := by omega
      rw [e]
      exact sf_s6 w hT
    · have e : M * 2048 = k * 144115188075855872 := by omega
      rw [e]
      exact sf_g6 k (by omega) h1 w hT
  · simp only [Nat.reducePow, Nat.reduceAdd, Nat.reduceSub] at h0 h1 hM
    by_cases hk : k = 128
    · subst hk
      have e : M * 2048 = 9223372036854775808 := by omega
      rw [e]
      exact sf_s7 w hT
    · have e : M * 2048 = k * 72057594037927936 := by omega
      rw [e]
      exact sf_g7 k (by omega) h1 w hT
  · simp only [Nat.reducePow, Nat.reduceAdd, Nat.reduceSub] at h0 h1 hM
    by_cases hk : k = 256
    · subst hk
      have e : M * 2048 = 9223372036854775808 := by omega
      rw [e]
      exact sf_s8 w hT
    · have e : M * 2048 = k * 36028797018963968 := by omega
      rw [e]
      exact sf_g8 k (by omega) h1 w hT
  · simp only [Nat.reducePow, Nat.reduceAdd, Nat.reduceSub] at h0 h1 hM
    by_cases hk : k = 512
    · subst hk
      have e : M * 2048 = 9223372036854775808 := by omega
      rw [e]
      exact sf_s9 w hT
    · have e : M * 2048 = k * 18014398509481984 := by omega
      rw [e]
      exact sf_g9 k (by omega) h1 w hT
  · simp only [Nat.reducePow, Nat.reduceAdd, Nat.reduceSub] at h0 h1 hM
    by_cases hk : k = 1024
    · subst hk
      have e : M * 2048 = 9223372036854775808 := by omega
      rw [e]
      exact sf_s10 w hT
    · have e : M * 2048 = k * 9007199254740992 := by omega
      rw [e]
      exact sf_g10 k (by omega) h1 w hT
  · simp only [Nat.reducePow, Nat.reduceAdd, Nat.reduceSub] at h0 h1 hM
    by_cases hk : k = 2048
    · subst hk
      have e : M * 2048 = 9223372036854775808 := by omega
      rw [e]
      exact sf_s11 w hT
    · have e : M * 2048 = k * 4503599627370496 := by omega
      rw [e]
      exact sf_g11 k (by omega) h1 w hT
  · simp only [Nat.reducePow, Nat.reduceAdd, Nat.reduceSub] at h0 h1 hM
    by_cases hk : k = 4096
    · subst hk
      have e : M * 2048 = 9223372036854775808 := by omega
      rw [e]
      exact sf_s12 w hT
    · have e : M * 2048 = k * 2251799813685248 := by omega
      rw [e]
      exact sf_g12 k (by omega) h1 w hT
  · simp only [Nat.reducePow, Nat.reduceAdd, Nat.reduceSub] at h0 h1 hM
    by_cases hk : k = 8192
    · subst hk
      have e : M * 2048 = 9223372036854775808 := by omega
      rw [e]
      exact sf_s13 w hT
    · have e : M * 2048 = k * 1125899906842624 := by omega
      rw [e]
      exact sf_g13 k (by omega) h1 w hT
  · simp only [Nat.reducePow, Nat.reduceAdd, Nat.reduceSub] at h0 h1 hM
    by_cases hk : k = 16384
    · subst hk
      have e : M * 2048 = 9223372036854775808 := by omega
      rw [e]
      exact sf_s14 w hT
    · have e : M * 2048 = k * 562949953421312 := by omega
      rw [e]
      exact sf_g14 k (by omega) h1 w hT
  · simp only [Nat.reducePow, Nat.reduceAdd, Nat.reduceSub] at h0 h1 hM
    by_cases hk : k = 32768
    · subst hk
      have e : M * 2048 = 9223372036854775808 := by omega
      rw [e]
      exact sf_s15 w hT
    · have e : M * 2048 = k * 281474976710656 := by omega
      rw [e]
      exact sf_g15 k (by omega) h1 w hT
  · simp only [Nat.reducePow, Nat.reduceAdd, Nat.reduceSub] at h0 h1 hM
    by_cases hk : k = 65536
    · subst hk
      have e : M * 2048 = 9223372036854775808 := by omega
      rw [e]
      exact sf_s16 w hT
    · have e : M * 2048 = k * 140737488355328 := by omega
      rw [e]
      exact sf_g16 k (by omega) h1 w hT
  · simp only [Nat.reducePow, Nat.reduceAdd, Nat.reduceSub] at h0 h1 hM
    by_cases hk : k = 131072
    · subst hk
      have e : M * 2048 = 9223372036854775808 := by omega
      rw [e]
      exact sf_s17 w hT
    · have e : M * 2048 = k * 70368744177664 := by omega
      rw [e]
      exact sf_g17 k (by omega) h1 w hT
  · simp only [Nat.reducePow, Nat.reduceAdd, Nat.reduceSub] at h0 h1 hM
    by_cases hk : k = 262144
    · subst hk
      have e : M * 2048 = 9223372036854775808 := by omega
      rw [e]
      exact sf_s18 w hT
    · have e : M * 2048 = k * 35184372088832 := by omega
      rw [e]
      exact sf_g18 k (by omega) h1 w hT
  · simp only [Nat.reducePow, Nat.reduceAdd, Nat.reduceSub] at h0 h1 hM
    by_cases hk : k = 524288
    · subst hk
      have e : M * 2048 = 9223372036854775808 := by omega
      rw [e]
      exact sf_s19 w hT
    · have e : M * 2048 = k * 17592186044416 := by omega
      rw [e]
      exact sf_g19 k (by omega) h1 w hT
end Go.Proofs.YtkhgaenffnoimaaGreatDoor
