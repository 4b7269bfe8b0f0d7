/- Plain facts on numerals and on the bits of whole numbers. -/
import Derived.Test.YtkhgaenffnoimaaGreatDoorF0
import Derived.Test.YtkhgaenffnoimaaGreatDoorKP
import Derived.Lib.ItoaNum
import Derived.Lib.QuoteBits
namespace Go.Proofs.YtkhgaenffnoimaaGreatDoor
open FL Ieee
theorem or_one_le (q : Nat) : q ≤ q ||| 1 ∧ q ||| 1 ≤ q + 1 ∧ (q ||| 1) / 4 = q / 4 := by
  rw [Lib.or_one_nat]; omega
theorem nDigits_mul (k q : Nat) (h : 1 ≤ k) : Lib.nDigits (k * 10 ^ q) = Lib.nDigits k + q := by
  induction q with
  | zero => simp
  | succ q ih =>
    have h1 : 1 ≤ k * 10 ^ q := Nat.mul_pos h (Nat.pow_pos (by decide))
    rw [Nat.pow_succ, ← Nat.mul_assoc, Lib.nDigits_big (by omega), Nat.mul_div_cancel _ (by decide), ih]
    omega
theorem dg_zero (k q j : Nat) (h : j < q) : Lib.dg (k * 10 ^ q) j = 48 := by
  unfold Lib.dg
  obtain ⟨r, rfl⟩ : ∃ r, q = j + (r + 1) := ⟨q - j - 1, by omega⟩
  have e : k * 10 ^ (j + (r + 1)) / 10 ^ j % 10 = 0 := by
    rw [Nat.pow_add, Nat.mul_left_comm, Nat.mul_div_cancel_left _ (Nat.pow_pos (by decide)), Nat.pow_succ, ← Nat.mul_assoc, Nat.mul_mod_left]
  rw [e]
  rfl
theorem dg_lt (u j : Nat) : (Lib.dg u j).toNat < 128 := by
  unfold Lib.dg
  have : u / 10 ^ j % 10 < 10 := Nat.mod_lt _ (by decide)
  generalize u / 10 ^ j % 10 = r at *
  rw [UInt8.toNat_ofNat']
  omega
theorem nDigits_le6 (k : Nat) (h : k < 1000000) : Lib.nDigits k ≤ 6 := by
  rcases Nat.lt_or_ge k 10 with h1 | h1
  · rw [Lib.nDigits_small h1]; decide
  · rw [Lib.nDigits_big (by omega)]
    rcases Nat.lt_or_ge (k / 10) 10 with h2 | h2
    · rw [Lib.nDigits_small h2]; decide
    · rw [Lib.nDigits_big (by omega)]
      rcases Nat.lt_or_ge (k / 10 / 10) 10 with h3 | h3
      · rw [Lib.nDigits_small h3]; decide
      · rw [Lib.nDigits_big (by omega)]
        rcases Nat.lt_or_ge (k / 10 / 10 / 10) 10 with h4 | h4
        · rw [Lib.nDigits_small h4]; decide
        · rw [Lib.nDigits_big (by omega)]
          rcases Nat.lt_or_ge (k / 10 / 10 / 10 / 10) 10 with h5 | h5
          · rw [Lib.nDigits_small h5]; decide
          · rw [Lib.nDigits_big (by omega), Lib.nDigits_small (by omega)]; decide
theorem dec_nDigits (n : Nat) : (dec n).length = Lib.nDigits n := by
  induction n using Nat.strongRecOn with
  | _ n ih =>
    by_cases h : n < 10
    · rw [dec, if_pos h, Lib.nDigits_small h]; rfl
    · rw [dec, if_neg h, Lib.nDigits_big h, List.length_append, ih (n / 10) (by omega)]; rfl
theorem plainS_size (n : Int) : (plainS n).size = Lib.nDigits n.natAbs + (if n < 0 then 1 else 0) := by
  unfold plainS
  split
  · rw [ByteArray.size_append, decS_size, dec_nDigits]
    show 1 + _ = _
    omega
  · rw [decS_size, dec_nDigits]; rfl
/-- The bits of a whole number other than 0, and less than 10^6. -/
theorem foi_bits (k : Int) (h0 : k ≠ 0) (h : k.natAbs < 1000000) : ∃ L M : Nat, L ≤ 19 ∧ 2 ^ L ≤ k.natAbs ∧ k.natAbs < 2 ^ (L + 1) ∧ M = k.natAbs * 2 ^ (52 - L) ∧ 4503599627370496 ≤ M ∧ M < 9007199254740992 ∧
    floatOfInt FloatKind.f64 k = (if k < 0 then 9223372036854775808 else 0) + ((L + 1022) * 4503599627370496 + M) := by
  have hk0 : k.natAbs ≠ 0 := by omega
  have h16 : (16 * k).natAbs = k.natAbs * 2 ^ 4 := by show (16 * k).natAbs = k.natAbs * 16; omega
  have hl16 : (16 * k).natAbs.log2 = k.natAbs.log2 + 4 := by rw [h16, log2_mul_pow _ _ hk0]
  have hlow := Nat.log2_self_le hk0
  have hupp := Nat.lt_log2_self (n := k.natAbs)
  have hL : k.natAbs.log2 ≤ 19 := by
    have : k.natAbs.log2 < 20 := (Nat.log2_lt hk0).2 (by omega)
    omega
  have hb : k.natAbs * 2 ^ (52 - k.natAbs.log2) < 9007199254740992 := by
    have h1 : k.natAbs * 2 ^ (52 - k.natAbs.log2) < 2 ^ (k.natAbs.log2 + 1) * 2 ^ (52 - k.natAbs.log2) := (Nat.mul_lt_mul_right (Nat.two_pow_pos _)).2 hupp
    rw [← Nat.pow_add, show k.natAbs.log2 + 1 + (52 - k.natAbs.log2) = 53 by omega] at h1
    simpa using h1
  have ha : 4503599627370496 ≤ k.natAbs * 2 ^ (52 - k.natAbs.log2) := by
    have h1 : 2 ^ k.natAbs.log2 * 2 ^ (52 - k.natAbs.log2) ≤ k.natAbs * 2 ^ (52 - k.natAbs.log2) := Nat.mul_le_mul_right _ hlow
    rw [← Nat.pow_add, show k.natAbs.log2 + (52 - k.natAbs.log2) = 52 by omega] at h1
    simpa using h1
  refine ⟨k.natAbs.log2, _, hL, hlow, hupp, rfl, ha, hb, ?_⟩
  rw [foi_F16 k (by omega)]
  unfold F16 Format.write
  have e := nearest_exact (decide (16 * k < 0)) (16 * k).natAbs 0 (-4) (by omega) (by omega) (by omega) (by omega)
  simp only [Nat.pow_zero, Nat.mul_one] at e
  have e' : double.nearest (decide (16 * k < 0)) (16 * k).natAbs (-4) = _ := e
  simp only [e', hl16]
  have e2 : (16 * k).natAbs * 2 ^ (52 - (k.natAbs.log2 + 4)) = k.natAbs * 2 ^ (52 - k.natAbs.log2) := by
    rw [h16, Nat.mul_assoc, ← Nat.pow_add, show 4 + (52 - (k.natAbs.log2 + 4)) = 52 - k.natAbs.log2 by omega]
  rw [e2]
  generalize k.natAbs * 2 ^ (52 - k.natAbs.log2) = M at *
  have e3 : (-4 + ((k.natAbs.log2 + 4 : Nat) : Int) - 52 + 1074).toNat = k.natAbs.log2 + 1022 := by omega
  rw [e3]
  unfold Format.word
  rw [signWeight_double]
  by_cases hn : k < 0
  · have : 16 * k < 0 := by omega
    simp [hn, this]
  · have : ¬ 16 * k < 0 := by omega
    simp [hn, this]
theorem dg_mul (k q j : Nat) : Lib.dg (k * 10 ^ q) (j + q) = Lib.dg k j := by
  unfold Lib.dg
  rw [Nat.pow_add, Nat.mul_comm (10 ^ j), Nat.mul_comm k, Nat.mul_div_mul_left _ _ (Nat.pow_pos (by decide))]
theorem dg_succ (k j : Nat) : Lib.dg k (j + 1) = Lib.dg (k / 10) j := by
  unfold Lib.dg
  rw [Nat.pow_succ, Nat.mul_comm, ← Nat.div_div_eq_div_mul]
theorem dg0 (k : Nat) : Lib.dg k 0 = 48 + UInt8.ofNat (k % 10) := by
  have : k % 10 < 10 := Nat.mod_lt _ (by decide)
  unfold Lib.dg
  rw [Nat.pow_zero, Nat.div_one]
  generalize k % 10 = r at *
  have h : r = 0 ∨ r = 1 ∨ r = 2 ∨ r = 3 ∨ r = 4 ∨ r = 5 ∨ r = 6 ∨ r = 7 ∨ r = 8 ∨ r = 9 := by omega
  rcases h with rfl | rfl | rfl | rfl | rfl | rfl | rfl | rfl | rfl | rfl <;> rfl
/-- The decimal digits, one by one. -/
theorem dec_range (k : Nat) : dec k = (List.range (Lib.nDigits k)).map fun j => Lib.dg k (Lib.nDigits k - 1 - j) := by
  induction k using Nat.strongRecOn with
  | _ k ih =>
    by_cases h : k < 10
    · rw [dec, if_pos h, Lib.nDigits_small h]
      simp [dg0]
    · rw [dec, if_neg h, Lib.nDigits_big h, ih (k / 10) (by omega), List.range_succ, List.map_append]
      congr 1
      · apply List.map_congr_left
        intro j hj
        have hj' : j < Lib.nDigits (k / 10) := by simpa using hj
        rw [show Lib.nDigits (k / 10) + 1 - 1 - j = Lib.nDigits (k / 10) - 1 - j + 1 by omega, dg_succ]
      · simp [dg0]
theorem digits_eq (f : Nat → UInt8) (D nz : Nat) (h : nz ≤ D) (hz : ∀ j, nz ≤ j → j < D → f j = 48) : (List.range nz).map f ++ List.replicate (D - nz) 48 = (List.range D).map f := by
  apply List.ext_getElem
  · simp; omega
  · intro i h1 h2
    have hi : i < D := by simpa using h2
    rcases Nat.lt_or_ge i nz with hn | hn
    · rw [List.getElem_append_left (by simpa using hn)]; simp
    · rw [List.getElem_append_right (by simpa using hn)]
      simp [hz i hn hi]
end Go.Proofs.YtkhgaenffnoimaaGreatDoor
