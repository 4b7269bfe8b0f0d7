/- ParseFloat of a whole number. -/
import Derived.Test.YtkhgaenffnoimaaGreatDoorKC
import Derived.Test.YtkhgaenffnoimaaGreatDoorF0
set_option linter.unusedSimpArgs false
set_option linter.unusedVariables false
namespace Go.Proofs.YtkhgaenffnoimaaGreatDoor
open Go.RowKit
attribute [local go_sem] run_store_float
set_option maxRecDepth 100000 in
set_option maxHeartbeats 2000000 in
/-- readFloat of 0. -/
theorem c198z (s : ByteArray) (w : World) (hsz : s.size = 1) (hlt : 0 < s.size) (hc : (s[0]'hlt).toNat = 48) :
    Calls Tryz.prog 198 #[.string s] w (fun e w' => e = .returned (.tuple #[.int .u64 0, .int .i64 0, .bool false, .bool false, .bool false, .int .i64 1, .bool true]) ∧ w' = w) := by
  go_enter Tryz.func198, Tryz.ntmps198
  go_wp2_with fail
  go_step3
  go_wp2_with fail
  all_goals (try go_step3)
  all_goals go_wp2_with fail
  go_loopw [2, 5, 7, 9, 13, 14, 15, 16, 17] (fun v2 v5 v7 v9 v13 v14 v15 v16 v17 wr => wr = w ∧ v2 = .int .u64 0 ∧ v5 = .bool false ∧ v9 = .bool false ∧ v13 = .bool false ∧ v15 = .int .i64 0 ∧ v16 = .int .i64 0 ∧ ∃ q : Nat, q ≤ 1 ∧ v7 = .int .i64 q ∧ v14 = .bool (decide (0 < q)) ∧ v17 = .int .i64 (-(q : Int))) (fun _ _ i _ _ _ _ _ _ _ => 1 - (intOf i).toNat)
  case atStart => exact ⟨rfl, rfl, rfl, rfl, rfl, rfl, rfl, 0, by decide, rfl, rfl, rfl⟩
  case round =>
    obtain ⟨rfl, rfl, rfl, rfl, rfl, rfl, rfl, q, hq, rfl, rfl, rfl⟩ := hrel
    by_cases h0 : q = 0
    · subst h0
      go_wp2_with fail
      go_roundw
      case rel => exact ⟨by first | rfl | trivial, rfl, rfl, rfl, rfl, rfl, rfl, 1, by decide, rfl, rfl, rfl⟩
      case measure => simp [intOf]
    · have h1 : q = 1 := by omega
      subst h1
      go_wp2_with fail
      rw [Exit.noGoto_ret]
      (refine bodyPost_ret (v := .tuple #[.int .u64 0, .int .i64 0, .bool false, .bool false, .bool false, .int .i64 1, .bool true]) ?_ rfl ?_; (focus (first | (simp [results, Tryz.results198, go_sem, hc1, hz1]; done) | (simp [results, Tryz.results198, go_sem]; done) | (simp [results, Tryz.results198, go_sem, *]; done))); exact ⟨rfl, rfl⟩)
set_option maxRecDepth 100000 in
set_option maxHeartbeats 2000000 in
theorem c228 (s : ByteArray) (c : Nat) (w : World) (hl : 0 < s.size) (hc : (s[0]'hl).toNat = c) (h0 : 48 ≤ c) (h1 : c ≤ 57) :
    Calls Tryz.prog 228 #[.string s, .string ⟨#[105, 110, 102, 105, 110, 105, 116, 121]⟩] w (fun e w' => e = .returned (.int .i64 0) ∧ w' = w) := by
  have h105 : ((c : Int) == 105) = false := by
    have : ¬ (c : Int) = 105 := by omega
    simpa using this
  obtain ⟨m, hm, hm1⟩ : ∃ m : Nat, min (8 : Int) (s.size : Int) = (m : Int) ∧ 1 ≤ m := ⟨min 8 s.size, by omega, by omega⟩
  have hi : ((⟨#[105, 110, 102, 105, 110, 105, 116, 121]⟩ : ByteArray)[0]'(by decide)).toNat = 105 := rfl
  go_enter Tryz.func228, Tryz.ntmps228
  go_wp2_with fail
  refine wp_loop_rounds 1 ?_
  rw [rounds_succ]
  go_wp2_with fail
  go_ret
  exact ⟨rfl, rfl⟩
end Go.Proofs.YtkhgaenffnoimaaGreatDoor
/- ParseFloat of a whole number: special, the exact road. -/
set_option linter.unusedSimpArgs false
set_option linter.unusedVariables false
namespace Go.Proofs.YtkhgaenffnoimaaGreatDoor
open Go.RowKit FL
attribute [local go_sem] run_store_float
set_option maxRecDepth 100000 in
set_option maxHeartbeats 2000000 in
theorem c197p (s : ByteArray) (c : Nat) (w : World) (hl : 0 < s.size) (hc : (s[0]'hl).toNat = c) (h0 : 48 ≤ c) (h1 : c ≤ 57) :
    Calls Tryz.prog 197 #[.string s] w (fun e w' => e = .returned (.tuple #[.float .f64 0, .int .i64 0, .bool false]) ∧ w' = w) := by
  have e43 : ((c : Int) == 43) = false := by
    have : ¬ (c : Int) = 43 := by omega
    simpa using this
  have e45 : ((c : Int) == 45) = false := by
    have : ¬ (c : Int) = 45 := by omega
    simpa using this
  have e105 : ((c : Int) == 105) = false := by
    have : ¬ (c : Int) = 105 := by omega
    simpa using this
  have e73 : ((c : Int) == 73) = false := by
    have : ¬ (c : Int) = 73 := by omega
    simpa using this
  have e110 : ((c : Int) == 110) = false := by
    have : ¬ (c : Int) = 110 := by omega
    simpa using this
  have e78 : ((c : Int) == 78) = false := by
    have : ¬ (c : Int) = 78 := by omega
    simpa using this
  have hne : ((s.size : Int) == 0) = false := by
    have : ¬ (s.size : Int) = 0 := by omega
    simpa using this
  go_enter Tryz.func197, Tryz.ntmps197
  go_wp2_with fail
  (refine bodyPost_ret (v := .tuple #[.float .f64 0, .int .i64 0, .bool false]) ?_ rfl ?_; (focus (first | (simp [results, Tryz.results197, go_sem, hc1, hz1]; done) | (simp [results, Tryz.results197, go_sem]; done) | (simp [results, Tryz.results197, go_sem, *]; done))); exact ⟨rfl, rfl⟩)
theorem ext1 (s : ByteArray) (c : Nat) (hl : 1 < s.size) (hc : (s[1]'hl).toNat = c) : ∃ h : 0 < (s.extract 1 s.size).size, ((s.extract 1 s.size)[0]'h).toNat = c := by
  refine ⟨by simp; omega, ?_⟩
  rw [← hc]
  congr 1
  rw [ByteArray.getElem_extract]
set_option maxRecDepth 100000 in
set_option maxHeartbeats 2000000 in
theorem c197n (s : ByteArray) (c : Nat) (w : World) (hl : 1 < s.size) (hm : (s[0]'(by omega)).toNat = 45) (hc : (s[1]'hl).toNat = c) (h0 : 48 ≤ c) (h1 : c ≤ 57) :
    Calls Tryz.prog 197 #[.string s] w (fun e w' => e = .returned (.tuple #[.float .f64 0, .int .i64 0, .bool false]) ∧ w' = w) := by
  obtain ⟨hx, hxc⟩ := ext1 s c hl hc
  have H := Lib.hid (c228 _ c w hx hxc h0 h1)
  have hl0 : 0 < s.size := by omega
  have hne : ((s.size : Int) == 0) = false := by
    have : ¬ (s.size : Int) = 0 := by omega
    simpa using this
  clear hxc hx hc
  go_enter Tryz.func197, Tryz.ntmps197
  go_wp2_with fail
  refine H.out.mono ?_
  rintro e w1 ⟨rfl, rfl⟩
  go_wp2_with fail
  (refine bodyPost_ret (v := .tuple #[.float .f64 0, .int .i64 0, .bool false]) ?_ rfl ?_; (focus (first | (simp [results, Tryz.results197, go_sem, hc1, hz1]; done) | (simp [results, Tryz.results197, go_sem]; done) | (simp [results, Tryz.results197, go_sem, *]; done))); exact ⟨rfl, rfl⟩)
theorem xor63 (b : Nat) (h : b < 9223372036854775808) : b ^^^ 9223372036854775808 = 9223372036854775808 + b := by
  have e : (9223372036854775808 : Nat) = 2 ^ 63 := by decide
  have h2 : b < 2 ^ 63 := by rw [← e]; exact h
  have e3 := Nat.two_pow_add_eq_or_of_lt h2 1
  rw [Nat.mul_one] at e3
  rw [e, e3]
  apply Nat.eq_of_testBit_eq
  intro j
  rw [Nat.testBit_xor, Nat.testBit_or, Nat.testBit_two_pow]
  by_cases hj : 63 = j
  · subst hj
    rw [Nat.testBit_lt_two_pow h2]
    simp
  · simp [hj]
theorem pow_uniq (a L L' : Nat) (h0 : 2 ^ L ≤ a) (h1 : a < 2 ^ (L + 1)) (h2 : 2 ^ L' ≤ a) (h3 : a < 2 ^ (L' + 1)) : L = L' := by
  rcases Nat.lt_trichotomy L L' with h | h | h
  · have := Nat.pow_le_pow_right (show 0 < 2 by decide) (show L + 1 ≤ L' by omega)
    omega
  · exact h
  · have := Nat.pow_le_pow_right (show 0 < 2 by decide) (show L' + 1 ≤ L by omega)
    omega
theorem neg_foi (m : Nat) (h0 : m ≠ 0) (h : m < 1000000) : Op.negFloat FloatKind.f64 (floatOfInt FloatKind.f64 (m : Int)) = floatOfInt FloatKind.f64 (-(m : Int)) := by
  obtain ⟨L, M, hL, a0, a1, hM, hM0, hM1, e⟩ := foi_bits (m : Int) (by omega) (by omega)
  obtain ⟨L', M', hL', b0, b1, hM', hM0', hM1', e'⟩ := foi_bits (-(m : Int)) (by omega) (by omega)
  have ea : (-(m : Int)).natAbs = (m : Int).natAbs := by omega
  rw [ea] at b0 b1 hM'
  have hLL := pow_uniq _ L L' a0 a1 b0 b1
  subst hLL
  have hMM : M' = M := by rw [hM, hM']
  subst hMM
  rw [if_neg (by omega)] at e
  rw [if_pos (by omega)] at e'
  rw [e, e']
  show (_ : Nat) ^^^ 2 ^ 63 = _
  rw [show (2 : Nat) ^ 63 = 9223372036854775808 by decide, xor63 _ (by omega)]
  omega
theorem run_neg_f64 {P : Program} {w : World} (b : Nat) : (Op.unary UnOp.neg (.float .f64 b)).run P w = .ok (.float .f64 (Op.negFloat .f64 b)) w := rfl
attribute [local go_sem] run_neg_f64
set_option maxRecDepth 100000 in
set_option maxHeartbeats 2000000 in
theorem c208p (m : Nat) (w : World) (hm : m ≤ 9999) (hg : w.cell? ⟨12, 0, none⟩ = some (.int .u64 52)) :
    Calls Tryz.prog 208 #[.int .u64 m, .int .i64 0, .bool false] w (fun e w' => e = .returned (.tuple #[.float .f64 (floatOfInt FloatKind.f64 m), .bool true]) ∧ w' = w) := by
  go_enter Tryz.func208, Tryz.ntmps208
  go_wp2_with fail
  go_ret2
  exact ⟨rfl, rfl⟩
set_option maxRecDepth 100000 in
set_option maxHeartbeats 2000000 in
theorem c208n (m : Nat) (w : World) (hm0 : m ≠ 0) (hm : m ≤ 9999) (hg : w.cell? ⟨12, 0, none⟩ = some (.int .u64 52)) :
    Calls Tryz.prog 208 #[.int .u64 m, .int .i64 0, .bool true] w (fun e w' => e = .returned (.tuple #[.float .f64 (floatOfInt FloatKind.f64 (-(m : Int))), .bool true]) ∧ w' = w) := by
  have hh := Lib.hid (neg_foi m hm0 (by omega))
  clear hm0
  go_enter Tryz.func208, Tryz.ntmps208
  go_wp2_with fail
  (refine bodyPost_ret (v := .tuple #[.float .f64 (Op.negFloat FloatKind.f64 (floatOfInt FloatKind.f64 (m : Int))), .bool true]) ?_ rfl ?_; (focus (first | (simp [results, Tryz.results208, go_sem, hc1, hz1]; done) | (simp [results, Tryz.results208, go_sem]; done) | (simp [results, Tryz.results208, go_sem, *]; done))); exact ⟨by rw [hh.out], rfl⟩)
end Go.Proofs.YtkhgaenffnoimaaGreatDoor
/- ParseFloat of a whole number: its own frames. -/
set_option linter.unusedSimpArgs false
set_option linter.unusedVariables false
namespace Go.Proofs.YtkhgaenffnoimaaGreatDoor
open Go.RowKit FL
attribute [local go_sem] run_store_float
theorem c207_0 (w : World) : (callFunc 207 #[.int .u64 0]).run Tryz.prog w = .ok (.value (.float .f64 0)) w := by
  rw [run_callFunc_extern (e := Extern.MathFloatBits.float64frombits) Tryz.func207 (by kernel_rfl) (by kernel_rfl) (by kernel_rfl) (by kernel_rfl)]
  rfl
theorem b01u_t : b01u true = 1 := rfl
theorem b01u_f : b01u false = 0 := rfl
attribute [local go_sem] b01u_t b01u_f
/-- The two variables of the library that a reader of numbers asks for. -/
def FT (w : World) : Prop := 18 < w.heap.size ∧ w.cell? ⟨8, 0, none⟩ = some (.bool true) ∧ w.cell? ⟨12, 0, none⟩ = some (.int .u64 52)
theorem FT.below {w w1 : World} {B : Nat} (h : FT w) (hb : Below B w w1) (hB : 18 < B) : FT w1 :=
  ⟨Nat.lt_of_lt_of_le h.1 hb.size, (hb.cell (p := ⟨8, 0, none⟩) (by show 8 < B; omega)).trans h.2.1, (hb.cell (p := ⟨12, 0, none⟩) (by show 12 < B; omega)).trans h.2.2⟩
set_option maxRecDepth 100000 in
set_option maxHeartbeats 2000000 in
theorem c177p (s : ByteArray) (m : Nat) (L : Int) (w : World) (hm0 : m ≠ 0) (hm : m ≤ 9999) (h8 : w.cell? ⟨8, 0, none⟩ = some (.bool true)) (h12 : w.cell? ⟨12, 0, none⟩ = some (.int .u64 52))
    (hs : ∀ w, Calls Tryz.prog 197 #[.string s] w (fun e w' => e = .returned (.tuple #[.float .f64 0, .int .i64 0, .bool false]) ∧ w' = w))
    (hr : ∀ w, Calls Tryz.prog 198 #[.string s] w (fun e w' => e = .returned (.tuple #[.int .u64 m, .int .i64 0, .bool false, .bool false, .bool false, .int .i64 L, .bool true]) ∧ w' = w)) :
    Calls Tryz.prog 177 #[.string s] w (fun e w' => e = .returned (.tuple #[.float .f64 (floatOfInt FloatKind.f64 (m : Int)), .int .i64 L, .nilIface]) ∧ w' = w) := by
  have HS := Lib.hid hs
  have HR := Lib.hid hr
  have hn0 : ((m : Int) == 0) = false := by
    have : ¬ (m : Int) = 0 := by omega
    simpa using this
  clear hs hr
  go_enter Tryz.func177, Tryz.ntmps177
  go_wp2_with (first
    | (go_at_call 197; refine (HS.out _).mono ?_; rintro e w1 ⟨rfl, rfl⟩)
    | (go_at_call 198; refine (HR.out _).mono ?_; rintro e w1 ⟨rfl, rfl⟩)
    | (go_at_call 206; refine (c206 _ _).mono ?_; rintro e w1 ⟨rfl, rfl⟩)
    | (go_at_call 208; refine (c208p m _ hm (by assumption)).mono ?_; rintro e w1 ⟨rfl, rfl⟩))
  (refine bodyPost_ret (v := .tuple #[.float .f64 (floatOfInt FloatKind.f64 (m : Int)), .int .i64 L, .nilIface]) ?_ rfl ?_; (focus (first | (simp [results, Tryz.results177, go_sem, hc1, hz1]; done) | (simp [results, Tryz.results177, go_sem]; done) | (simp [results, Tryz.results177, go_sem, *]; done))); exact ⟨rfl, rfl⟩)
set_option maxRecDepth 100000 in
set_option maxHeartbeats 2000000 in
theorem c177n (s : ByteArray) (m : Nat) (L : Int) (w : World) (hm0 : m ≠ 0) (hm : m ≤ 9999) (h8 : w.cell? ⟨8, 0, none⟩ = some (.bool true)) (h12 : w.cell? ⟨12, 0, none⟩ = some (.int .u64 52))
    (hs : ∀ w, Calls Tryz.prog 197 #[.string s] w (fun e w' => e = .returned (.tuple #[.float .f64 0, .int .i64 0, .bool false]) ∧ w' = w))
    (hr : ∀ w, Calls Tryz.prog 198 #[.string s] w (fun e w' => e = .returned (.tuple #[.int .u64 m, .int .i64 0, .bool true, .bool false, .bool false, .int .i64 L, .bool true]) ∧ w' = w)) :
    Calls Tryz.prog 177 #[.string s] w (fun e w' => e = .returned (.tuple #[.float .f64 (floatOfInt FloatKind.f64 (-(m : Int))), .int .i64 L, .nilIface]) ∧ w' = w) := by
  have HS := Lib.hid hs
  have HR := Lib.hid hr
  have hn0 : ((m : Int) == 0) = false := by
    have : ¬ (m : Int) = 0 := by omega
    simpa using this
  clear hs hr
  go_enter Tryz.func177, Tryz.ntmps177
  go_wp2_with (first
    | (go_at_call 197; refine (HS.out _).mono ?_; rintro e w1 ⟨rfl, rfl⟩)
    | (go_at_call 198; refine (HR.out _).mono ?_; rintro e w1 ⟨rfl, rfl⟩)
    | (go_at_call 206; refine (c206 _ _).mono ?_; rintro e w1 ⟨rfl, rfl⟩)
    | (go_at_call 208; refine (c208n m _ hm0 hm (by assumption)).mono ?_; rintro e w1 ⟨rfl, rfl⟩))
  (refine bodyPost_ret (v := .tuple #[.float .f64 (floatOfInt FloatKind.f64 (-(m : Int))), .int .i64 L, .nilIface]) ?_ rfl ?_; (focus (first | (simp [results, Tryz.results177, go_sem, hc1, hz1]; done) | (simp [results, Tryz.results177, go_sem]; done) | (simp [results, Tryz.results177, go_sem, *]; done))); exact ⟨rfl, rfl⟩)
set_option maxRecDepth 100000 in
set_option maxHeartbeats 2000000 in
theorem c177z (s : ByteArray) (L : Int) (w : World) (h8 : w.cell? ⟨8, 0, none⟩ = some (.bool true)) (h12 : w.cell? ⟨12, 0, none⟩ = some (.int .u64 52))
    (hs : ∀ w, Calls Tryz.prog 197 #[.string s] w (fun e w' => e = .returned (.tuple #[.float .f64 0, .int .i64 0, .bool false]) ∧ w' = w))
    (hr : ∀ w, Calls Tryz.prog 198 #[.string s] w (fun e w' => e = .returned (.tuple #[.int .u64 0, .int .i64 0, .bool false, .bool false, .bool false, .int .i64 L, .bool true]) ∧ w' = w)) :
    Calls Tryz.prog 177 #[.string s] w (fun e w' => e = .returned (.tuple #[.float .f64 0, .int .i64 L, .nilIface]) ∧ w' = w) := by
  have HS := Lib.hid hs
  have HR := Lib.hid hr
  have h207 := fun W => c207_0 W
  have hor : bits BinOp.or IntKind.u64 0 0 = 0 := by decide +kernel
  clear hs hr
  go_enter Tryz.func177, Tryz.ntmps177
  go_wp2_with (first
    | (go_at_call 197; refine (HS.out _).mono ?_; rintro e w1 ⟨rfl, rfl⟩)
    | (go_at_call 198; refine (HR.out _).mono ?_; rintro e w1 ⟨rfl, rfl⟩)
    | (go_at_call 206; refine (c206 _ _).mono ?_; rintro e w1 ⟨rfl, rfl⟩))
  (refine bodyPost_ret (v := .tuple #[.float .f64 0, .int .i64 L, .nilIface]) ?_ rfl ?_; (focus (first | (simp [results, Tryz.results177, go_sem, hc1, hz1]; done) | (simp [results, Tryz.results177, go_sem]; done) | (simp [results, Tryz.results177, go_sem, *]; done))); exact ⟨rfl, rfl⟩)
set_option maxRecDepth 100000 in
set_option maxHeartbeats 2000000 in
theorem c155 (s : ByteArray) (F : Nat) (w : World) (h : Calls Tryz.prog 177 #[.string s] w (fun e w' => e = .returned (.tuple #[.float .f64 F, .int .i64 s.size, .nilIface]) ∧ w' = w)) :
    Calls Tryz.prog 155 #[.string s, .int .i64 64] w (fun e w' => e = .returned (.tuple #[.float .f64 F, .int .i64 s.size, .nilIface]) ∧ w' = w) := by
  have H := Lib.hid h
  clear h
  go_enter Tryz.func155, Tryz.ntmps155
  go_wp2_with fail
  refine H.out.mono ?_
  rintro e w1 ⟨rfl, rfl⟩
  go_wp2_with fail
  (refine bodyPost_ret (v := .tuple #[.float .f64 F, .int .i64 s.size, .nilIface]) ?_ rfl ?_; (focus (first | (simp [results, Tryz.results155, go_sem, hc1, hz1]; done) | (simp [results, Tryz.results155, go_sem]; done) | (simp [results, Tryz.results155, go_sem, *]; done))); exact ⟨rfl, rfl⟩)
set_option maxRecDepth 100000 in
set_option maxHeartbeats 2000000 in
theorem c126 (s : ByteArray) (F : Nat) (w : World) (h : Calls Tryz.prog 177 #[.string s] w (fun e w' => e = .returned (.tuple #[.float .f64 F, .int .i64 s.size, .nilIface]) ∧ w' = w)) :
    Calls Tryz.prog 126 #[.string s, .int .i64 64] w (fun e w' => e = .returned (.tuple #[.float .f64 F, .nilIface]) ∧ w' = w) := by
  have H := Lib.hid (c155 s F w h)
  clear h
  go_enter Tryz.func126, Tryz.ntmps126
  go_wp2_with fail
  refine H.out.mono ?_
  rintro e w1 ⟨rfl, rfl⟩
  go_wp2_with fail
  (refine bodyPost_ret (v := .tuple #[.float .f64 F, .nilIface]) ?_ rfl ?_; (focus (first | (simp [results, Tryz.results126, go_sem, hc1, hz1]; done) | (simp [results, Tryz.results126, go_sem]; done) | (simp [results, Tryz.results126, go_sem, *]; done))); exact ⟨rfl, rfl⟩)
set_option maxRecDepth 100000 in
set_option maxHeartbeats 2000000 in
theorem c95' (s : ByteArray) (F : Nat) (w : World) (h : Calls Tryz.prog 177 #[.string s] w (fun e w' => e = .returned (.tuple #[.float .f64 F, .int .i64 s.size, .nilIface]) ∧ w' = w)) :
    Calls Tryz.prog 95 #[.string s, .int .i64 64] w (fun e w' => e = .returned (.tuple #[.float .f64 F, .nilIface]) ∧ w' = w) := by
  have H := Lib.hid (c126 s F w h)
  clear h
  go_enter Tryz.func95, Tryz.ntmps95
  go_wp2_with fail
  refine H.out.mono ?_
  rintro e w1 ⟨rfl, rfl⟩
  go_wp2_with fail
  (refine bodyPost_ret (v := .tuple #[.float .f64 F, .nilIface]) ?_ rfl ?_; (focus (first | (simp [results, Tryz.results95, go_sem, hc1, hz1]; done) | (simp [results, Tryz.results95, go_sem]; done) | (simp [results, Tryz.results95, go_sem, *]; done))); exact ⟨rfl, rfl⟩)
theorem first_digit {s : ByteArray} {p n : Nat} {ds : List Nat} (h : DT s p n ds) : ∃ (c : Nat) (hl : p < s.size), (s[p]'hl).toNat = c ∧ 48 ≤ c ∧ c ≤ 57 := by
  have hl : p + 0 < s.size := by have := h.size; have := h.pos; omega
  have hd : ds[0]? = some (ds[0]'h.pos) := List.getElem?_eq_getElem h.pos
  have h9 := h.dig _ (List.getElem_mem h.pos)
  exact ⟨48 + ds[0]'h.pos, hl, h.dat 0 _ hd hl, by omega, by omega⟩
/-- ParseFloat of a whole number as it is written. -/
theorem c95 (k : Int) (w : World) (hk : k.natAbs ≤ 9999) (hT : FT w) :
    Calls Tryz.prog 95 #[.string (plainS k), .int .i64 64] w (fun e w' => e = .returned (.tuple #[.float .f64 (floatOfInt FloatKind.f64 k), .nilIface]) ∧ w' = w) := by
  refine c95' _ _ w ?_
  by_cases h0 : k = 0
  · subst h0
    have e : plainS 0 = decS 0 := by unfold plainS; rw [if_neg (by decide)]; rfl
    rw [e, foi0]
    have hd := dt_pos 0 (by decide)
    have hsz : (decS 0).size = 1 := by rw [hd.size, ddg_small 0 (by decide)]; rfl
    have hl : 0 < (decS 0).size := by omega
    have hc : ((decS 0)[0]'hl).toNat = 48 := hd.dat 0 0 (by rw [ddg_small 0 (by decide)]; rfl) hl
    rw [hsz]
    exact c177z _ 1 w hT.2.1 hT.2.2 (fun W => c197p _ 48 W hl hc (by decide) (by decide)) (fun W => c198z _ W hsz hl hc)
  · by_cases hn : k < 0
    · have e : plainS k = ⟨#[45]⟩ ++ decS k.natAbs := by unfold plainS; rw [if_pos hn]
      rw [e]
      have hd := dt_neg k.natAbs (by omega)
      obtain ⟨c, hl, hc, h48, h57⟩ := first_digit hd
      have hm : ∀ h, ((((⟨#[45]⟩ : ByteArray) ++ decS k.natAbs)[0]'h).toNat = 45) := fun h => by
        rw [ByteArray.getElem_append_left (show 0 < (⟨#[45]⟩ : ByteArray).size by decide)]
        rfl
      have ek : (-(k.natAbs : Int)) = k := by omega
      have hr := fun W => c198n _ k.natAbs _ W (by omega) hk hd hm
      have := c177n _ k.natAbs _ w (by omega) hk hT.2.1 hT.2.2 (fun W => c197n _ c W hl (hm (by omega)) hc h48 h57) hr
      rw [ek] at this
      have es : (((⟨#[45]⟩ : ByteArray) ++ decS k.natAbs).size : Int) = ((ddg k.natAbs).length : Int) + 1 := by rw [hd.size]; omega
      rw [es]
      exact this
    · have e : plainS k = decS k.natAbs := by unfold plainS; rw [if_neg hn]
      rw [e]
      have hd := dt_pos k.natAbs (by omega)
      obtain ⟨c, hl, hc, h48, h57⟩ := first_digit hd
      have ek : (k.natAbs : Int) = k := by omega
      have hr := fun W => c198p _ k.natAbs _ W (by omega) hk hd
      have := c177p _ k.natAbs _ w (by omega) hk hT.2.1 hT.2.2 (fun W => c197p _ c W hl hc h48 h57) hr
      rw [ek] at this
      have es : ((decS k.natAbs).size : Int) = ((ddg k.natAbs).length : Int) := by rw [hd.size]; omega
      rw [es]
      exact this
end Go.Proofs.YtkhgaenffnoimaaGreatDoor
