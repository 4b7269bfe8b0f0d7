/- Plain facts on doubles that hold whole numbers and sixteenths. -/
import Derived.Laws.FloatArith
namespace FL
open Ieee

theorem leastPlace_double : double.leastPlace = -1074 := rfl
theorem binade_double : double.binade = 4503599627370496 := by unfold Format.binade double; decide
theorem infRung_double : double.infRung = 9218868437227405312 := by unfold Format.infRung Format.binade double; decide
theorem signWeight_double : double.signWeight = 9223372036854775808 := by unfold Format.signWeight double; decide

theorem cut_even_exact (neg : Bool) (n k : Nat) : Toward.even.cut neg (n * 2 ^ k) k = n ∨ n = 0 := by
  by_cases h0 : n = 0
  · exact .inr h0
  left
  unfold Toward.cut
  have hp : 0 < 2 ^ k := Nat.two_pow_pos k
  have hne : n * 2 ^ k ≠ 0 := Nat.mul_ne_zero h0 (by omega)
  have hl : k ≤ (n * 2 ^ k).log2 := by
    have := (Nat.le_log2 hne (k := k)).2 (Nat.le_mul_of_pos_left _ (by omega))
    exact this
  have hmin : min k ((n * 2 ^ k).log2 + 2) = k := by omega
  simp only [hmin, Nat.shiftLeft_eq, Nat.one_mul, Nat.mul_div_cancel _ hp, Nat.mul_mod_left]
  have h1 : ¬ (2 ^ k < 2 * 0) := by omega
  have h2 : ¬ (2 ^ k = 2 * 0) := by omega
  simp [h1]

theorem log2_mul_pow (n k : Nat) (h : n ≠ 0) : (n * 2 ^ k).log2 = n.log2 + k := by
  have hne : n * 2 ^ k ≠ 0 := Nat.mul_ne_zero h (by have := Nat.two_pow_pos k; omega)
  rw [Nat.log2_eq_iff hne]
  have h1 := Nat.log2_self_le h
  have h2 := Nat.lt_log2_self (n := n)
  refine ⟨?_, ?_⟩
  · rw [Nat.pow_add]; exact Nat.mul_le_mul_right _ h1
  · rw [show n.log2 + k + 1 = (n.log2 + 1) + k by omega, Nat.pow_add]
    exact (Nat.mul_lt_mul_right (Nat.two_pow_pos k)).2 h2

theorem log2_lt53 (m : Nat) (hm : m < 9007199254740992) : m.log2 ≤ 52 := by
  by_cases h : m = 0
  · subst h; decide
  · have : m.log2 < 53 := (Nat.log2_lt h).2 (by simpa using hm)
    omega

theorem split_pow (a b : Nat) (h : a ≤ b) : 2 ^ b = 2 ^ a * 2 ^ (b - a) := by rw [← Nat.pow_add]; congr 1; omega

/-- What is written of a number that the format has. -/
theorem nearest_exact (neg : Bool) (m k : Nat) (place : Int) (h0 : m ≠ 0) (hm : m < 9007199254740992) (hlo : -1022 ≤ place) (hhi : place ≤ 900) :
    double.nearest neg (m * 2 ^ k) (place - k) = double.word neg ((place + m.log2 - 52 + 1074).toNat * 4503599627370496 + m * 2 ^ (52 - m.log2)) := by
  have hl := log2_lt53 m hm
  have hne : m * 2 ^ k ≠ 0 := Nat.mul_ne_zero h0 (by have := Nat.two_pow_pos k; omega)
  unfold Format.nearest
  rw [if_neg hne]
  have e52 : ((double.fractionBits : Nat) : Int) = 52 := rfl
  simp only [leastPlace_double, binade_double, infRung_double, log2_mul_pow m k h0]
  have hlast : max (place - (k : Int) + ((m.log2 + k : Nat) : Int) - (double.fractionBits : Nat)) (-1074) = place + m.log2 - 52 := by rw [e52]; omega
  rw [hlast]
  have hlow := Nat.log2_self_le h0
  have hupp := Nat.lt_log2_self (n := m)
  have hkept : Toward.even.cut neg ((m * 2 ^ k) <<< (place - (k : Int) - (place + m.log2 - 52)).toNat) (place + m.log2 - 52 - (place - (k : Int))).toNat = m * 2 ^ (52 - m.log2) := by
    by_cases hc : k ≤ 52 - m.log2
    · have e1 : (place - (k : Int) - (place + m.log2 - 52)).toNat = 52 - m.log2 - k := by omega
      have e2 : (place + m.log2 - 52 - (place - (k : Int))).toNat = 0 := by omega
      rw [e1, e2, Nat.shiftLeft_eq, Nat.mul_assoc, ← split_pow k (52 - m.log2) hc]
      have := cut_even_exact neg (m * 2 ^ (52 - m.log2)) 0
      simp only [Nat.pow_zero, Nat.mul_one] at this
      rcases this with h | h
      · exact h
      · exact absurd h (Nat.mul_ne_zero h0 (by have := Nat.two_pow_pos (52 - m.log2); omega))
    · have e1 : (place - (k : Int) - (place + m.log2 - 52)).toNat = 0 := by omega
      have e2 : (place + m.log2 - 52 - (place - (k : Int))).toNat = k - (52 - m.log2) := by omega
      rw [e1, e2, Nat.shiftLeft_eq, Nat.pow_zero, Nat.mul_one, split_pow (52 - m.log2) k (by omega), ← Nat.mul_assoc]
      have := cut_even_exact neg (m * 2 ^ (52 - m.log2)) (k - (52 - m.log2))
      rcases this with h | h
      · exact h
      · exact absurd h (Nat.mul_ne_zero h0 (by have := Nat.two_pow_pos (52 - m.log2); omega))
  rw [hkept]
  congr 1
  have hb : m * 2 ^ (52 - m.log2) < 9007199254740992 := by
    have h1 : m * 2 ^ (52 - m.log2) < 2 ^ (m.log2 + 1) * 2 ^ (52 - m.log2) := (Nat.mul_lt_mul_right (Nat.two_pow_pos _)).2 hupp
    rw [← Nat.pow_add, show m.log2 + 1 + (52 - m.log2) = 53 by omega] at h1
    simpa using h1
  have hp : (place + m.log2 - 52 - -1074).toNat = (place + m.log2 - 52 + 1074).toNat := by congr 1
  rw [hp, Nat.min_eq_left]
  have : (place + m.log2 - 52 + 1074).toNat ≤ 1974 := by omega
  omega

/-- The float64 of 'n / 16'. -/
def F16 (n : Int) : Nat := double.write (.number (decide (n < 0)) n.natAbs (-4))

theorem nearest_zero (neg : Bool) (p : Int) : double.nearest neg 0 p = double.word neg 0 := by unfold Format.nearest; rw [if_pos rfl]

theorem nearest_F16 (n : Int) (hn : n.natAbs < 9007199254740992) (k : Nat) (p : Int) (hp : p = -4 - (k : Int)) : double.nearest (decide (n < 0)) (n.natAbs * 2 ^ k) p = F16 n := by
  subst hp
  show _ = double.nearest (decide (n < 0)) n.natAbs (-4)
  by_cases h0 : n.natAbs = 0
  · rw [h0, Nat.zero_mul, nearest_zero, nearest_zero]
  · rw [nearest_exact _ _ k (-4) h0 hn (by omega) (by omega)]
    have := nearest_exact (decide (n < 0)) n.natAbs 0 (-4) h0 hn (by omega) (by omega)
    simp only [Nat.pow_zero, Nat.mul_one] at this
    rw [← this]
    congr 1

theorem word_sign (neg : Bool) (r : Nat) (h : r < 9223372036854775808) : (double.word neg r / double.signWeight % 2 == 1) = neg ∧ double.word neg r % double.signWeight = r := by
  rw [signWeight_double]
  unfold Format.word
  rw [signWeight_double]
  cases neg
  · simp only [Bool.false_eq_true, if_false]
    have : r / 9223372036854775808 = 0 := by omega
    rw [this]
    exact ⟨by decide, by omega⟩
  · simp only [if_true]
    have : (9223372036854775808 + r) / 9223372036854775808 = 1 := by omega
    rw [this]
    exact ⟨by decide, by omega⟩

theorem read_F16 (n : Int) (hn : n.natAbs < 9007199254740992) : ∃ j : Nat, (n ≠ 0 → j = 52 - n.natAbs.log2) ∧ (n = 0 → j = 1070) ∧ double.read (F16 n) = .number (decide (n < 0)) (n.natAbs * 2 ^ j) (-4 - (j : Int)) := by
  by_cases h0 : n = 0
  · subst h0
    have e0 : F16 0 = 0 := by decide
    have key : ∀ j : Nat, j = 1070 → double.read (F16 0) = .number (decide ((0 : Int) < 0)) ((0 : Int).natAbs * 2 ^ j) (-4 - (j : Int)) := by
      intro j hj
      rw [e0, show (0 : Int).natAbs = 0 from rfl, Nat.zero_mul, show (-4 - (j : Int)) = -1074 by omega]
      decide
    exact ⟨1070, fun h => absurd rfl h, fun _ => rfl, key 1070 rfl⟩
  have h0' : n.natAbs ≠ 0 := by omega
  refine ⟨52 - n.natAbs.log2, fun _ => rfl, fun h => absurd h h0, ?_⟩
  have hl := log2_lt53 n.natAbs hn
  have hlow := Nat.log2_self_le h0'
  have hupp := Nat.lt_log2_self (n := n.natAbs)
  have e := nearest_exact (decide (n < 0)) n.natAbs 0 (-4) h0' hn (by omega) (by omega)
  simp only [Nat.pow_zero, Nat.mul_one] at e
  have hb : n.natAbs * 2 ^ (52 - n.natAbs.log2) < 9007199254740992 := by
    have h1 : n.natAbs * 2 ^ (52 - n.natAbs.log2) < 2 ^ (n.natAbs.log2 + 1) * 2 ^ (52 - n.natAbs.log2) := (Nat.mul_lt_mul_right (Nat.two_pow_pos _)).2 hupp
    rw [← Nat.pow_add, show n.natAbs.log2 + 1 + (52 - n.natAbs.log2) = 53 by omega] at h1
    simpa using h1
  have ha : 4503599627370496 ≤ n.natAbs * 2 ^ (52 - n.natAbs.log2) := by
    have h1 : 2 ^ n.natAbs.log2 * 2 ^ (52 - n.natAbs.log2) ≤ n.natAbs * 2 ^ (52 - n.natAbs.log2) := Nat.mul_le_mul_right _ hlow
    rw [← Nat.pow_add, show n.natAbs.log2 + (52 - n.natAbs.log2) = 52 by omega] at h1
    simpa using h1
  unfold F16 Format.write
  have hF : double.nearest (decide (n < 0)) n.natAbs (-4) = double.word (decide (n < 0)) ((-4 + (n.natAbs.log2 : Int) - 52 + 1074).toNat * 4503599627370496 + n.natAbs * 2 ^ (52 - n.natAbs.log2)) := e
  simp only [hF]
  generalize n.natAbs * 2 ^ (52 - n.natAbs.log2) = M at *
  generalize n.natAbs.log2 = L at *
  have hT : (-4 + (L : Int) - 52 + 1074).toNat = L + 1018 := by omega
  rw [hT]
  obtain ⟨hs, hr⟩ := word_sign (decide (n < 0)) ((L + 1018) * 4503599627370496 + M) (by omega)
  unfold Format.read
  simp only [hs, hr, binade_double, infRung_double, leastPlace_double]
  rw [if_neg (by omega), if_pos (by omega)]
  have h1 : ((L + 1018) * 4503599627370496 + M) % 4503599627370496 = M - 4503599627370496 := by omega
  have h2 : ((L + 1018) * 4503599627370496 + M) / 4503599627370496 = L + 1019 := by omega
  have h3 : 4503599627370496 + (M - 4503599627370496) = M := by omega
  have h4 : (-1074 + ((L + 1019 - 1 : Nat) : Int)) = -4 - ((52 - L : Nat) : Int) := by omega
  rw [h1, h2, h3, h4]
theorem F16_bound (n : Int) (hn : n.natAbs < 9007199254740992) : ∃ j : Nat, j ≤ 1070 ∧ double.read (F16 n) = .number (decide (n < 0)) (n.natAbs * 2 ^ j) (-4 - (j : Int)) := by
  obtain ⟨j, h1, h2, h3⟩ := read_F16 n hn
  refine ⟨j, ?_, h3⟩
  by_cases h : n = 0
  · have := h2 h; omega
  · have := h1 h; omega

theorem signed_F16 (n : Int) (i j : Nat) : signed (decide (n < 0)) (n.natAbs * 2 ^ i) j = n * 2 ^ (i + j) := by
  unfold signed
  rw [Nat.shiftLeft_eq, Nat.mul_assoc, ← Nat.pow_add]
  by_cases h : n < 0
  · simp only [h, decide_true, if_true, Int.natCast_mul, Int.natCast_pow]
    have : ((n.natAbs : Nat) : Int) = -n := by omega
    rw [this, Int.neg_mul, Int.neg_neg]; rfl
  · simp only [h, decide_false, Bool.false_eq_true, if_false, Int.natCast_mul, Int.natCast_pow]
    have : ((n.natAbs : Nat) : Int) = n := by omega
    rw [this]; rfl

theorem natAbs_mul_pow (n : Int) (k : Nat) : (n * 2 ^ k).natAbs = n.natAbs * 2 ^ k := by
  rw [Int.natAbs_mul, Int.natAbs_pow]; rfl
theorem mul_pow_neg (n : Int) (k : Nat) : (n * 2 ^ k < 0) ↔ n < 0 := by
  have h : (0 : Int) < 2 ^ k := Int.pow_pos (by omega)
  constructor
  · intro hl
    rcases Int.lt_or_le n 0 with h1 | h1
    · exact h1
    · have := Int.mul_nonneg h1 (Int.le_of_lt h); omega
  · intro hl
    have := Int.mul_neg_of_neg_of_pos hl h; exact this
theorem mul_pow_zero (n : Int) (k : Nat) : (n * 2 ^ k = 0) ↔ n = 0 := by
  have h : (0 : Int) < 2 ^ k := Int.pow_pos (by omega)
  constructor
  · intro hl
    rcases Int.mul_eq_zero.1 hl with h1 | h1
    · exact h1
    · omega
  · rintro rfl; exact Int.zero_mul _

theorem add_F16 (a b : Int) (ha : a.natAbs < 9007199254740992) (hb : b.natAbs < 9007199254740992) (hab : (a + b).natAbs < 9007199254740992) : double.add (F16 a) (F16 b) = some (F16 (a + b)) := by
  obtain ⟨i, hi, ra⟩ := F16_bound a ha
  obtain ⟨j, hj, rb⟩ := F16_bound b hb
  unfold Format.add
  rw [ra, rb]
  unfold Datum.sum
  simp only [Option.map_some]
  congr 1
  have hbase : min (-4 - (i : Int)) (-4 - (j : Int)) = -4 - ((max i j : Nat) : Int) := by omega
  rw [hbase, signed_F16, signed_F16]
  have e1 : i + (-4 - (i : Int) - (-4 - ((max i j : Nat) : Int))).toNat = max i j := by omega
  have e2 : j + (-4 - (j : Int) - (-4 - ((max i j : Nat) : Int))).toNat = max i j := by omega
  rw [e1, e2, ← Int.add_mul]
  show double.nearest _ _ _ = _
  rw [natAbs_mul_pow]
  have hs : (if (a + b) * 2 ^ max i j = 0 then decide (a < 0) && decide (b < 0) else decide ((a + b) * 2 ^ max i j < 0)) = decide (a + b < 0) := by
    by_cases h : a + b = 0
    · rw [if_pos ((mul_pow_zero _ _).2 h), h]
      by_cases h1 : a < 0 <;> by_cases h2 : b < 0 <;> simp [h1, h2]
      omega
    · rw [if_neg (fun e => h ((mul_pow_zero _ _).1 e))]
      exact decide_eq_decide.2 (mul_pow_neg _ _)
  rw [hs]
  exact nearest_F16 (a + b) hab _ _ rfl

theorem order_F16 (a b : Int) (ha : a.natAbs < 9007199254740992) (hb : b.natAbs < 9007199254740992) : double.order (F16 a) (F16 b) = some (compare a b) := by
  obtain ⟨i, hi, ra⟩ := F16_bound a ha
  obtain ⟨j, hj, rb⟩ := F16_bound b hb
  unfold Format.order
  rw [ra, rb]
  unfold Datum.order
  simp only
  have hbase : min (-4 - (i : Int)) (-4 - (j : Int)) = -4 - ((max i j : Nat) : Int) := by omega
  rw [hbase, signed_F16, signed_F16]
  have e1 : i + (-4 - (i : Int) - (-4 - ((max i j : Nat) : Int))).toNat = max i j := by omega
  have e2 : j + (-4 - (j : Int) - (-4 - ((max i j : Nat) : Int))).toNat = max i j := by omega
  rw [e1, e2]
  congr 1
  have h : (0 : Int) < 2 ^ max i j := Int.pow_pos (by omega)
  generalize (2 : Int) ^ max i j = p at h
  simp only [compare, compareOfLessAndEq]
  by_cases h1 : a < b
  · have := Int.mul_lt_mul_of_pos_right h1 h
    simp [h1, this]
  · by_cases h2 : a = b
    · simp [h2]
    · have h3 : b < a := by omega
      have := Int.mul_lt_mul_of_pos_right h3 h
      have h4 : ¬ a * p < b * p := by omega
      have h5 : ¬ a * p = b * p := by omega
      simp [h1, h2, h4, h5]

theorem neg_beq (a b : Int) : ((decide (a < 0)) ^^ (decide (b < 0))) = decide (a * b < 0) ∨ a * b = 0 := by
  rcases Int.lt_trichotomy a 0 with h1 | h1 | h1
  · rcases Int.lt_trichotomy b 0 with h2 | h2 | h2
    · left; have := Int.mul_pos_of_neg_of_neg h1 h2; simp [h1, h2]; omega
    · right; rw [h2, Int.mul_zero]
    · left; have := Int.mul_neg_of_neg_of_pos h1 h2; simp [h1, this]; omega
  · right; rw [h1, Int.zero_mul]
  · rcases Int.lt_trichotomy b 0 with h2 | h2 | h2
    · left; have := Int.mul_neg_of_pos_of_neg h1 h2; simp [h2, this]; omega
    · right; rw [h2, Int.mul_zero]
    · left; have := Int.mul_pos h1 h2; have h3 : ¬ a * b < 0 := by omega
      simp [h3]; omega

/-- The product of two numbers of sixteenths, if it is one; no negative zero comes of it where the signs say so. -/
theorem mul_F16 (a b c : Int) (ha : a.natAbs < 9007199254740992) (hb : b.natAbs < 9007199254740992) (hc : c.natAbs < 9007199254740992) (h : a * b = 16 * c) (hz : c ≠ 0 ∨ (0 ≤ a ∧ 0 ≤ b)) : double.mul (F16 a) (F16 b) = some (F16 c) := by
  obtain ⟨i, hi, ra⟩ := F16_bound a ha
  obtain ⟨j, hj, rb⟩ := F16_bound b hb
  unfold Format.mul
  rw [ra, rb]
  unfold Datum.product
  simp only [Option.map_some]
  congr 1
  show double.nearest _ _ _ = _
  have hs : ((decide (a < 0)) ^^ (decide (b < 0))) = decide (c < 0) := by
    rcases neg_beq a b with e | e
    · rw [e, h]; exact decide_eq_decide.2 (by omega)
    · have hc0 : c = 0 := by omega
      rcases hz with hz | ⟨h1, h2⟩
      · exact absurd hc0 hz
      · have h3 : ¬ a < 0 := by omega
        have h4 : ¬ b < 0 := by omega
        simp [h3, h4, hc0]
  rw [hs]
  have hm : a.natAbs * 2 ^ i * (b.natAbs * 2 ^ j) = c.natAbs * 2 ^ (4 + i + j) := by
    have e : a.natAbs * b.natAbs = 16 * c.natAbs := by rw [← Int.natAbs_mul, h, Int.natAbs_mul]; rfl
    calc a.natAbs * 2 ^ i * (b.natAbs * 2 ^ j) = (a.natAbs * b.natAbs) * (2 ^ i * 2 ^ j) := by simp only [Nat.mul_assoc, Nat.mul_left_comm]
      _ = c.natAbs * (2 ^ 4 * 2 ^ i * 2 ^ j) := by rw [e]; simp only [Nat.mul_assoc, Nat.mul_left_comm, Nat.mul_comm]
      _ = c.natAbs * 2 ^ (4 + i + j) := by rw [Nat.pow_add, Nat.pow_add]
  rw [hm]
  exact nearest_F16 c hc _ _ (by omega)

theorem ofInt_F16 (n : Int) (hn : (16 * n).natAbs < 9007199254740992) : Go.floatOfInt .f64 n = F16 (16 * n) := by
  show double.nearest (decide (n < 0)) n.natAbs 0 = _
  by_cases h0 : n.natAbs = 0
  · have : n = 0 := by omega
    subst this
    decide
  have e := nearest_exact (decide (n < 0)) n.natAbs 4 0 h0 (by omega) (by omega) (by omega)
  have e' := nearest_exact (decide (n < 0)) n.natAbs 0 0 h0 (by omega) (by omega) (by omega)
  simp only [Nat.pow_zero, Nat.mul_one] at e'
  have e'' : double.nearest (decide (n < 0)) n.natAbs 0 = double.nearest (decide (n < 0)) n.natAbs (0 - ((0 : Nat) : Int)) := rfl
  rw [e'', e', ← e]
  show _ = double.nearest (decide (16 * n < 0)) (16 * n).natAbs (-4)
  have h1 : decide (n < 0) = decide (16 * n < 0) := decide_eq_decide.2 (by omega)
  have h2 : n.natAbs * 2 ^ 4 = (16 * n).natAbs := by omega
  rw [h1, h2]
  rfl

theorem toInt_F16 (n : Int) (hn : (16 * n).natAbs < 9007199254740992) : (double.read (F16 (16 * n))).toInt .zero = some n := by
  obtain ⟨j, hj, r⟩ := F16_bound (16 * n) hn
  rw [r]
  unfold Datum.toInt Datum.integral
  have hup : (-4 - (j : Int)).toNat = 0 := by omega
  have hdrop : (-(-4 - (j : Int))).toNat = 4 + j := by omega
  simp only [hup, hdrop, Nat.shiftLeft_eq, Nat.pow_zero, Nat.mul_one]
  congr 1
  have hm : (16 * n).natAbs * 2 ^ j = n.natAbs * 2 ^ (4 + j) := by
    rw [Nat.pow_add, ← Nat.mul_assoc]; congr 1; omega
  rw [hm]
  have hcut : ∀ s : Bool, Toward.zero.cut s (n.natAbs * 2 ^ (4 + j)) (4 + j) = n.natAbs := by
    intro s
    unfold Toward.cut
    by_cases h0 : n.natAbs = 0
    · simp [h0]
    have hp : 0 < 2 ^ (4 + j) := Nat.two_pow_pos _
    have hmin : min (4 + j) ((n.natAbs * 2 ^ (4 + j)).log2 + 2) = 4 + j := by rw [log2_mul_pow _ _ h0]; omega
    simp only [hmin, Nat.shiftLeft_eq, Nat.one_mul, Nat.mul_div_cancel _ hp]
    rfl
  rw [hcut]
  unfold signed
  rw [Nat.shiftLeft_eq, Nat.pow_zero, Nat.mul_one]
  by_cases h : 16 * n < 0
  · simp only [h, decide_true, if_true]; omega
  · simp only [h, decide_false, Bool.false_eq_true, if_false]; omega

/-- The quotient of two numbers of sixteenths, if it is one: c / 16 = (a / 16) / (b / 16). -/
theorem div_F16 (a b c : Int) (ha : a.natAbs < 562949953421312) (hb : b.natAbs < 9007199254740992) (hc : c.natAbs < 9007199254740992) (hb0 : 0 < b) (h : 16 * a = b * c) : double.div (F16 a) (F16 b) = some (F16 c) := by
  obtain ⟨i, hi1, _, ra⟩ := read_F16 a (by omega)
  obtain ⟨j, hj1, _, rb⟩ := read_F16 b hb
  have hj := hj1 (by omega)
  have hlb := log2_lt53 b.natAbs hb
  have hla : a.natAbs.log2 ≤ 48 := by
    by_cases h : a.natAbs = 0
    · rw [h]; decide
    · have : a.natAbs.log2 < 49 := (Nat.log2_lt h).2 (by simpa using ha)
      omega
  unfold Format.div
  rw [ra, rb]
  unfold Datum.quotient
  have hbn : b.natAbs * 2 ^ j ≠ 0 := Nat.mul_ne_zero (by omega) (by have := Nat.two_pow_pos j; omega)
  simp only [if_neg hbn]
  simp only [Option.map_some]
  congr 1
  show double.nearest _ _ _ = _
  have hs : ((decide (a < 0)) ^^ (decide (b < 0))) = decide (c < 0) := by
    have h2 : ¬ b < 0 := by omega
    simp only [h2, decide_false, Bool.xor_false]
    refine decide_eq_decide.2 ⟨fun h1 => ?_, fun h1 => ?_⟩
    · rcases Int.lt_or_le c 0 with h3 | h3
      · exact h3
      · have := Int.mul_nonneg (Int.le_of_lt hb0) h3; omega
    · have := Int.mul_neg_of_pos_of_neg hb0 h1; omega
  rw [hs]
  have hbl : (b.natAbs * 2 ^ j).log2 = 52 := by rw [log2_mul_pow _ _ (by omega)]; omega
  rw [hbl]
  have e54 : double.fractionBits + 2 + 52 = 106 := rfl
  rw [e54]
  have hmain : ∃ k : Nat, 2 * ((a.natAbs * 2 ^ i) <<< (106 - (a.natAbs * 2 ^ i).log2) / (b.natAbs * 2 ^ j)) + ((a.natAbs * 2 ^ i) <<< (106 - (a.natAbs * 2 ^ i).log2) % (b.natAbs * 2 ^ j) != 0).toNat = c.natAbs * 2 ^ k ∧ (c ≠ 0 → -4 - (i : Int) - (-4 - (j : Int)) - ((106 - (a.natAbs * 2 ^ i).log2 : Nat) : Int) - 1 = -4 - (k : Int)) := by
    by_cases h0 : a = 0
    · have hc0 : c = 0 := by
        subst h0
        have : b * c = 0 := by omega
        rcases Int.mul_eq_zero.1 this with h1 | h1
        · omega
        · exact h1
      subst h0
      subst hc0
      refine ⟨0, ?_, fun h => absurd rfl h⟩
      simp
    · have hi := hi1 h0
      have hal : (a.natAbs * 2 ^ i).log2 = 52 := by rw [log2_mul_pow _ _ (by omega)]; omega
      rw [hal]
      refine ⟨i + 51 - j, ?_, fun _ => by omega⟩
      have he : 16 * a.natAbs = b.natAbs * c.natAbs := by rw [← Int.natAbs_mul, ← h, Int.natAbs_mul]; rfl
      have hd : (a.natAbs * 2 ^ i) <<< (106 - 52) = c.natAbs * 2 ^ (i + 50 - j) * (b.natAbs * 2 ^ j) := by
        rw [Nat.shiftLeft_eq]
        calc a.natAbs * 2 ^ i * 2 ^ (106 - 52) = a.natAbs * 2 ^ (i + 54) := by rw [Nat.mul_assoc, ← Nat.pow_add]
          _ = a.natAbs * (2 ^ 4 * 2 ^ (i + 50)) := by rw [← Nat.pow_add]; congr 2; omega
          _ = (16 * a.natAbs) * 2 ^ (i + 50) := by rw [← Nat.mul_assoc, Nat.mul_comm a.natAbs]
          _ = b.natAbs * c.natAbs * (2 ^ (i + 50 - j) * 2 ^ j) := by rw [he, ← Nat.pow_add]; congr 2; omega
          _ = c.natAbs * 2 ^ (i + 50 - j) * (b.natAbs * 2 ^ j) := by simp only [Nat.mul_comm, Nat.mul_left_comm, Nat.mul_assoc]
      rw [hd, Nat.mul_div_cancel _ (by omega), Nat.mul_mod_left]
      have : i + 51 - j = (i + 50 - j) + 1 := by omega
      rw [this, Nat.pow_succ]
      simp only [bne_self_eq_false, Bool.toNat_false, Nat.add_zero]
      rw [Nat.mul_left_comm, Nat.mul_comm 2]
  obtain ⟨k, hk1, hk2⟩ := hmain
  rw [hk1]
  by_cases hc0 : c = 0
  · subst hc0
    rw [show (0 : Int).natAbs = 0 from rfl, Nat.zero_mul, nearest_zero]
    decide
  · exact nearest_F16 c hc k _ (hk2 hc0)

end FL

namespace Go.Proofs.YtkhgaenffnoimaaGreatDoor
open FL Ieee
theorem foi_F16 (n : Int) (h : n.natAbs < 562949953421312) : floatOfInt FloatKind.f64 n = F16 (16 * n) := ofInt_F16 n (by omega)
theorem foi_order (n : Int) (h : n.natAbs < 562949953421312) : FloatKind.f64.format.order (floatOfInt FloatKind.f64 n) (floatOfInt FloatKind.f64 n) = some Ordering.eq := by
  rw [foi_F16 n h]
  have h2 : (16 * n).natAbs < 9007199254740992 := by omega
  have := order_F16 (16 * n) (16 * n) h2 h2
  rw [show FloatKind.f64.format = double from rfl, this]
  simp [compare, compareOfLessAndEq]
theorem F16_zero : F16 0 = 0 := by decide
theorem foi_zero (n : Int) (h : n.natAbs < 562949953421312) (h0 : FloatKind.f64.format.order (floatOfInt FloatKind.f64 n) 0 = some Ordering.eq) : floatOfInt FloatKind.f64 n = 0 := by
  have h2 : (16 * n).natAbs < 9007199254740992 := by omega
  have h3 := order_F16 (16 * n) 0 h2 (by decide)
  rw [F16_zero] at h3
  rw [foi_F16 n h, show FloatKind.f64.format = double from rfl, h3] at h0
  have h4 : compare (16 * n) 0 = Ordering.eq := Option.some.inj h0
  have h5 : 16 * n = 0 := by
    simp only [compare, compareOfLessAndEq] at h4
    split at h4
    · cases h4
    · split at h4
      · assumption
      · cases h4
  rw [foi_F16 n h, h5]
  exact F16_zero
theorem foi_div1 (n : Int) (h : n.natAbs < 35184372088832) : double.div (floatOfInt FloatKind.f64 n) (floatOfInt FloatKind.f64 1) = some (floatOfInt FloatKind.f64 n) := by
  rw [foi_F16 n (by omega), foi_F16 1 (by decide)]
  exact div_F16 (16 * n) (16 * 1) (16 * n) (by omega) (by decide) (by omega) (by decide) (by omega)
end Go.Proofs.YtkhgaenffnoimaaGreatDoor
