/- Digits and Plain of whole numbers. -/
import Derived.Test.YtkhgaenffnoimaaGreatDoorI1
import Derived.Deep.QuietTactic
import Derived.BigQuiet
set_option linter.unusedSimpArgs false
set_option linter.unusedVariables false
namespace Go.Proofs.YtkhgaenffnoimaaGreatDoor
open Go.RowKit
attribute [local go_sem] run_store_float

/-- The decimal digits of n. -/
def dec (n : Nat) : List UInt8 := if n < 10 then [48 + UInt8.ofNat (n % 10)] else dec (n / 10) ++ [48 + UInt8.ofNat (n % 10)]
def decS (n : Nat) : ByteArray := ⟨(dec n).toArray⟩
theorem dec_len (n : Nat) : 1 ≤ (dec n).length := by
  unfold dec
  split <;> simp
theorem dec_len_le : ∀ (k n : Nat), n < 10 ^ (k + 1) → (dec n).length ≤ k + 1 := by
  intro k
  induction k with
  | zero => intro n h; unfold dec; rw [if_pos (by omega)]; simp
  | succ k ih =>
    intro n h
    unfold dec
    split
    · simp
    · have : n / 10 < 10 ^ (k + 1) := by rw [Nat.pow_succ] at h; omega
      have := ih (n / 10) this
      simp only [List.length_append, List.length_cons, List.length_nil]
      omega
theorem decS_size (n : Nat) : (decS n).size = (dec n).length := by unfold decS; simp [ByteArray.size]
theorem decS_size_le (n : Nat) (h : n ≤ 999999999999999999) : (decS n).size ≤ 18 := by
  rw [decS_size]
  exact dec_len_le 17 n (by omega)
theorem decS_step (n : Nat) (h : ¬ n < 10) : decS n = decS (n / 10) ++ ⟨#[48 + UInt8.ofNat (n % 10)]⟩ := by
  unfold decS
  rw [dec, if_neg h]
  apply ByteArray.ext
  simp [ByteArray.data_append]
theorem digs_at (r : Nat) (h : r < 10) : (⟨#[48, 49, 50, 51, 52, 53, 54, 55, 56, 57, 65, 66, 67, 68, 69, 70, 71, 72, 73, 74, 75, 76, 77, 78, 79, 80, 81, 82, 83, 84, 85, 86, 87, 88, 89, 90]⟩ : ByteArray).extract r (r + 1) = ⟨#[48 + UInt8.ofNat r]⟩ := by
  have : r = 0 ∨ r = 1 ∨ r = 2 ∨ r = 3 ∨ r = 4 ∨ r = 5 ∨ r = 6 ∨ r = 7 ∨ r = 8 ∨ r = 9 := by omega
  rcases this with rfl | rfl | rfl | rfl | rfl | rfl | rfl | rfl | rfl | rfl <;> decide +kernel
set_option maxRecDepth 100000 in
theorem c33 : ∀ (m : Nat) (x : Int) (w : World), x < m → 0 ≤ x → x ≤ 999999999999999999 → Calls Tryz.prog 33 #[.int .i64 x, .int .i64 10] w (Ret w (.string (decS x.toNat))) := by
  intro m
  induction m with
  | zero => intro x w h; omega
  | succ m ih =>
    intro x w hnm h0 hn
    obtain ⟨n, rfl⟩ := Int.eq_ofNat_of_zero_le h0
    have hdg := digs_at (n % 10) (by omega)
    by_cases h10 : n < 10
    · go_enter Tryz.func33, Tryz.ntmps33
      go_wp2_with fail
      go_quiet (fail)
      go_wp2_with fail
      go_ret
      have e : decS (n : Int).toNat = (⟨#[48, 49, 50, 51, 52, 53, 54, 55, 56, 57, 65, 66, 67, 68, 69, 70, 71, 72, 73, 74, 75, 76, 77, 78, 79, 80, 81, 82, 83, 84, 85, 86, 87, 88, 89, 90]⟩ : ByteArray).extract (n % 10) (n % 10 + 1) := by
        rw [hdg]
        unfold decS dec
        rw [Int.toNat_natCast, if_pos h10]
      rw [e]
      exact ret_mk (by repeat (first | (with_reducible exact Below.refl _ _) | (with_reducible assumption) | ((with_reducible refine Below.alloc ?_ ?_ _); rotate_left; focus (first | exact Nat.le_refl _ | omega | (simp; done) | (simp; omega))) | ((with_reducible refine Below.setCell ?_ ?_ _); rotate_left; focus (first | exact Nat.le_refl _ | omega | (simp; done) | (simp; omega))) | (with_reducible refine Below.drew ?_) | (with_reducible refine below_drewN ?_ _) | ((with_reducible refine below_via (by assumption) ?_ ?_); focus (first | exact Nat.le_refl _ | omega | (simp; done) | (simp; omega)))))
    · have HI := Lib.hid ih
      clear ih
      have hsz := decS_size_le (n / 10) (by omega)
      have hsz2 : ¬ 9223372036854775807 < (decS (n / 10)).size + 1 := by omega
      go_enter Tryz.func33, Tryz.ntmps33
      go_wp2_with fail
      go_quiet (fail)
      go_wp2_with (go_at_call 33; refine (HI.out _ _ (by omega) (by omega) (by omega)).mono ?_; rintro e w1 ⟨rfl, hb1⟩)
      go_ret
      have e : decS (n : Int).toNat = decS (n / 10) ++ ⟨#[48 + UInt8.ofNat (n % 10)]⟩ := by
        rw [Int.toNat_natCast]
        exact decS_step n h10
      rw [e]
      exact ret_mk (by repeat (first | (with_reducible exact Below.refl _ _) | (with_reducible assumption) | ((with_reducible refine Below.alloc ?_ ?_ _); rotate_left; focus (first | exact Nat.le_refl _ | omega | (simp; done) | (simp; omega))) | ((with_reducible refine Below.setCell ?_ ?_ _); rotate_left; focus (first | exact Nat.le_refl _ | omega | (simp; done) | (simp; omega))) | (with_reducible refine Below.drew ?_) | (with_reducible refine below_drewN ?_ _) | ((with_reducible refine below_via (by assumption) ?_ ?_); focus (first | exact Nat.le_refl _ | omega | (simp; done) | (simp; omega)))))
theorem absI (n : Int) (h : n < 0) : (-n).toNat = n.natAbs := by omega
/-- A whole number as it is written. -/
def plainS (n : Int) : ByteArray := if n < 0 then ⟨#[45]⟩ ++ decS n.natAbs else decS n.natAbs
set_option maxRecDepth 100000 in
theorem c13 (n : Int) (t : ByteArray) (w : World) (h0 : -99999999999 ≤ n) (h1 : n ≤ 99999999999) : Calls Tryz.prog 13 #[.agg #[.int .i64 1, .int .i64 n, .int .i64 1, .string t, .slice none 0 0]] w (Ret w (.string (plainS n))) := by
  by_cases hn : n < 0
  · have hsz := decS_size_le n.natAbs (by omega)
    have e : plainS n = ⟨#[45]⟩ ++ decS (-n).toNat := by unfold plainS; rw [if_pos hn, absI n hn]
    rw [e]
    have hsz2 : ¬ 9223372036854775807 < 1 + (decS (-n).toNat).size := by rw [absI n hn]; omega
    go_enter Tryz.func13, Tryz.ntmps13
    go_wp2_with (go_at_call 33; refine (c33 9999999999999 _ _ (by omega) (by omega) (by omega)).mono ?_; rintro e w1 ⟨rfl, hb1⟩; obtain ⟨hc1, hf1, hz1⟩ := bcell hb1; have hle1 := hb1.size; try have hs1 : w.heap.size < w1.heap.size := hz1 _ (by first | (simp; done) | (simp; omega) | omega); try have hs2 : w.heap.size + 1 < w1.heap.size := hz1 _ (by first | (simp; done) | (simp; omega) | omega); try have hs3 : w.heap.size + 1 + 1 < w1.heap.size := hz1 _ (by first | (simp; done) | (simp; omega) | omega))
    go_ret
    exact ret_mk (by repeat (first | (with_reducible exact Below.refl _ _) | (with_reducible assumption) | ((with_reducible refine Below.alloc ?_ ?_ _); rotate_left; focus (first | exact Nat.le_refl _ | omega | (simp; done) | (simp; omega))) | ((with_reducible refine Below.setCell ?_ ?_ _); rotate_left; focus (first | exact Nat.le_refl _ | omega | (simp; done) | (simp; omega))) | (with_reducible refine Below.drew ?_) | (with_reducible refine below_drewN ?_ _) | ((with_reducible refine below_via (by assumption) ?_ ?_); focus (first | exact Nat.le_refl _ | omega | (simp; done) | (simp; omega)))))
  · have hsz := decS_size_le n.natAbs (by omega)
    have ea : n.natAbs = n.toNat := by omega
    rw [ea] at hsz
    have e : plainS n = ⟨#[]⟩ ++ decS n.toNat := by
      unfold plainS
      rw [if_neg hn, ea]
      apply ByteArray.ext
      simp [ByteArray.data_append]
    rw [e]
    have hsz2 : ¬ 9223372036854775807 < (decS n.toNat).size := by omega
    go_enter Tryz.func13, Tryz.ntmps13
    go_wp2_with (go_at_call 33; refine (c33 9999999999999 _ _ (by omega) (by omega) (by omega)).mono ?_; rintro e w1 ⟨rfl, hb1⟩; obtain ⟨hc1, hf1, hz1⟩ := bcell hb1; have hle1 := hb1.size; try have hs1 : w.heap.size < w1.heap.size := hz1 _ (by first | (simp; done) | (simp; omega) | omega); try have hs2 : w.heap.size + 1 < w1.heap.size := hz1 _ (by first | (simp; done) | (simp; omega) | omega); try have hs3 : w.heap.size + 1 + 1 < w1.heap.size := hz1 _ (by first | (simp; done) | (simp; omega) | omega))
    go_ret
    exact ret_mk (by repeat (first | (with_reducible exact Below.refl _ _) | (with_reducible assumption) | ((with_reducible refine Below.alloc ?_ ?_ _); rotate_left; focus (first | exact Nat.le_refl _ | omega | (simp; done) | (simp; omega))) | ((with_reducible refine Below.setCell ?_ ?_ _); rotate_left; focus (first | exact Nat.le_refl _ | omega | (simp; done) | (simp; omega))) | (with_reducible refine Below.drew ?_) | (with_reducible refine below_drewN ?_ _) | ((with_reducible refine below_via (by assumption) ?_ ?_); focus (first | exact Nat.le_refl _ | omega | (simp; done) | (simp; omega)))))
end Go.Proofs.YtkhgaenffnoimaaGreatDoor
