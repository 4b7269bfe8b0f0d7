/- Frac, Same, abs, short, Digits, Plain of the reference. -/
import Derived.Test.YtpahhejkpdkjmaaGreatDoorA1
import Derived.Deep.QuietTactic
import Derived.BigQuiet
set_option linter.unusedSimpArgs false
set_option linter.unusedVariables false
namespace Go.Proofs.YtpahhejkpdkjmaaGreatDoor
open Go.RowKit
attribute [local go_sem] run_store_float

def SameP (ka kb na nb da db : Int) (ta tb : ByteArray) (b : Bool) : Prop := b = true ↔ (ka = kb ∧ na = nb ∧ da = db ∧ ta = tb)
set_option maxRecDepth 100000 in
theorem c168 (ka kb na nb da db : Int) (ta tb : ByteArray) (w : World) : Calls Tryz.prog 168 #[.agg #[.int .i64 ka, .int .i64 na, .int .i64 da, .string ta, .slice none 0 0], .agg #[.int .i64 kb, .int .i64 nb, .int .i64 db, .string tb, .slice none 0 0]] w (RetB w (SameP ka kb na nb da db ta tb)) := by
  by_cases hk : ka = kb
  · subst hk
    by_cases hn : na = nb
    · subst hn
      by_cases hd : da = db
      · subst hd
        by_cases ht : ta = tb
        · subst ht
          go_enter Tryz.func168, Tryz.ntmps168
          go_wp2_with fail
          refine wp_loop_rounds 1 ?_
          rw [rounds_succ]
          go_wp2_with fail
          go_ret
          exact retB_mk true ⟨fun _ => ⟨rfl, rfl, rfl, rfl⟩, fun _ => rfl⟩ (by repeat (first | (with_reducible exact Below.refl _ _) | (with_reducible assumption) | ((with_reducible refine Below.alloc ?_ ?_ _); rotate_left; focus (first | exact Nat.le_refl _ | omega | (simp; done) | (simp; omega))) | ((with_reducible refine Below.setCell ?_ ?_ _); rotate_left; focus (first | exact Nat.le_refl _ | omega | (simp; done) | (simp; omega))) | (with_reducible refine Below.drew ?_) | (with_reducible refine below_drewN ?_ _) | ((with_reducible refine below_via (by assumption) ?_ ?_); focus (first | exact Nat.le_refl _ | omega | (simp; done) | (simp; omega)))))
        · have ht' : (ta.toList == tb.toList) = false := by
            rw [beq_eq_false_iff_ne]
            exact fun e => ht (toList_inj e)
          go_enter Tryz.func168, Tryz.ntmps168
          go_wp2_with fail
          go_ret
          exact retB_mk false ⟨fun h => (nomatch h), fun h => absurd h.2.2.2 ht⟩ (by repeat (first | (with_reducible exact Below.refl _ _) | (with_reducible assumption) | ((with_reducible refine Below.alloc ?_ ?_ _); rotate_left; focus (first | exact Nat.le_refl _ | omega | (simp; done) | (simp; omega))) | ((with_reducible refine Below.setCell ?_ ?_ _); rotate_left; focus (first | exact Nat.le_refl _ | omega | (simp; done) | (simp; omega))) | (with_reducible refine Below.drew ?_) | (with_reducible refine below_drewN ?_ _) | ((with_reducible refine below_via (by assumption) ?_ ?_); focus (first | exact Nat.le_refl _ | omega | (simp; done) | (simp; omega)))))
      · have hd' : (da == db) = false := by simpa using hd
        go_enter Tryz.func168, Tryz.ntmps168
        go_wp2_with fail
        go_ret
        exact retB_mk false ⟨fun h => (nomatch h), fun h => absurd h.2.2.1 hd⟩ (by repeat (first | (with_reducible exact Below.refl _ _) | (with_reducible assumption) | ((with_reducible refine Below.alloc ?_ ?_ _); rotate_left; focus (first | exact Nat.le_refl _ | omega | (simp; done) | (simp; omega))) | ((with_reducible refine Below.setCell ?_ ?_ _); rotate_left; focus (first | exact Nat.le_refl _ | omega | (simp; done) | (simp; omega))) | (with_reducible refine Below.drew ?_) | (with_reducible refine below_drewN ?_ _) | ((with_reducible refine below_via (by assumption) ?_ ?_); focus (first | exact Nat.le_refl _ | omega | (simp; done) | (simp; omega)))))
    · have hn' : (na == nb) = false := by simpa using hn
      go_enter Tryz.func168, Tryz.ntmps168
      go_wp2_with fail
      go_ret
      exact retB_mk false ⟨fun h => (nomatch h), fun h => absurd h.2.1 hn⟩ (by repeat (first | (with_reducible exact Below.refl _ _) | (with_reducible assumption) | ((with_reducible refine Below.alloc ?_ ?_ _); rotate_left; focus (first | exact Nat.le_refl _ | omega | (simp; done) | (simp; omega))) | ((with_reducible refine Below.setCell ?_ ?_ _); rotate_left; focus (first | exact Nat.le_refl _ | omega | (simp; done) | (simp; omega))) | (with_reducible refine Below.drew ?_) | (with_reducible refine below_drewN ?_ _) | ((with_reducible refine below_via (by assumption) ?_ ?_); focus (first | exact Nat.le_refl _ | omega | (simp; done) | (simp; omega)))))
  · have hk' : (ka == kb) = false := by simpa using hk
    go_enter Tryz.func168, Tryz.ntmps168
    go_wp2_with fail
    go_ret
    exact retB_mk false ⟨fun h => (nomatch h), fun h => absurd h.1 hk⟩ (by repeat (first | (with_reducible exact Below.refl _ _) | (with_reducible assumption) | ((with_reducible refine Below.alloc ?_ ?_ _); rotate_left; focus (first | exact Nat.le_refl _ | omega | (simp; done) | (simp; omega))) | ((with_reducible refine Below.setCell ?_ ?_ _); rotate_left; focus (first | exact Nat.le_refl _ | omega | (simp; done) | (simp; omega))) | (with_reducible refine Below.drew ?_) | (with_reducible refine below_drewN ?_ _) | ((with_reducible refine below_via (by assumption) ?_ ?_); focus (first | exact Nat.le_refl _ | omega | (simp; done) | (simp; omega)))))
theorem c224 (n : Int) (w : World) (h0 : -9000000000000000000 ≤ n) (h1 : n ≤ 9000000000000000000) : Calls Tryz.prog 224 #[.int .i64 n] w (RetQ w fun v => ∃ m : Int, v = .int .i64 m) := by
  go_enter Tryz.func224, Tryz.ntmps224
  go_wp2
  all_goals
    go_ret
    exact retQ_mk _ ⟨_, rfl⟩
def ShortP (k n d : Int) (b : Bool) : Prop := b = true → k = 1 ∧ d = 1 ∧ -1000000 < n ∧ n < 1000000
set_option maxRecDepth 100000 in
theorem c183 (k n d : Int) (t : ByteArray) (w : World) : Calls Tryz.prog 183 #[.agg #[.int .i64 k, .int .i64 n, .int .i64 d, .string t, .slice none 0 0]] w (RetB w (ShortP k n d)) := by
  go_enter Tryz.func183, Tryz.ntmps183
  go_wp2_with (go_at_call 169; refine (c169 _ _ _ _ _ _).mono ?_; rintro e w1 ⟨b, rfl, hr, hb1⟩; obtain ⟨hc1, hf1, hz1⟩ := bcell hb1; have hle1 := hb1.size; try have hs1 : w.heap.size < w1.heap.size := hz1 _ (by first | (simp; done) | (simp; omega) | omega); try have hs2 : w.heap.size + 1 < w1.heap.size := hz1 _ (by first | (simp; done) | (simp; omega) | omega); try have hs3 : w.heap.size + 1 + 1 < w1.heap.size := hz1 _ (by first | (simp; done) | (simp; omega) | omega))
  · go_ret
    have hb : b = true := by assumption
    have hn : -1000000 < n := by assumption
    exact retB_mk _ (fun h => ⟨(hr.1 hb).1, (hr.1 hb).2, hn, of_decide_eq_true h⟩) (by repeat (first | (with_reducible exact Below.refl _ _) | (with_reducible assumption) | ((with_reducible refine Below.alloc ?_ ?_ _); rotate_left; focus (first | exact Nat.le_refl _ | omega | (simp; done) | (simp; omega))) | ((with_reducible refine Below.setCell ?_ ?_ _); rotate_left; focus (first | exact Nat.le_refl _ | omega | (simp; done) | (simp; omega))) | (with_reducible refine Below.drew ?_) | (with_reducible refine below_drewN ?_ _) | ((with_reducible refine below_via (by assumption) ?_ ?_); focus (first | exact Nat.le_refl _ | omega | (simp; done) | (simp; omega)))))
  · go_ret
    exact retB_mk false (fun h => (nomatch h)) (by repeat (first | (with_reducible exact Below.refl _ _) | (with_reducible assumption) | ((with_reducible refine Below.alloc ?_ ?_ _); rotate_left; focus (first | exact Nat.le_refl _ | omega | (simp; done) | (simp; omega))) | ((with_reducible refine Below.setCell ?_ ?_ _); rotate_left; focus (first | exact Nat.le_refl _ | omega | (simp; done) | (simp; omega))) | (with_reducible refine Below.drew ?_) | (with_reducible refine below_drewN ?_ _) | ((with_reducible refine below_via (by assumption) ?_ ?_); focus (first | exact Nat.le_refl _ | omega | (simp; done) | (simp; omega)))))
  · go_ret
    exact retB_mk false (fun h => (nomatch h)) (by repeat (first | (with_reducible exact Below.refl _ _) | (with_reducible assumption) | ((with_reducible refine Below.alloc ?_ ?_ _); rotate_left; focus (first | exact Nat.le_refl _ | omega | (simp; done) | (simp; omega))) | ((with_reducible refine Below.setCell ?_ ?_ _); rotate_left; focus (first | exact Nat.le_refl _ | omega | (simp; done) | (simp; omega))) | (with_reducible refine Below.drew ?_) | (with_reducible refine below_drewN ?_ _) | ((with_reducible refine below_via (by assumption) ?_ ?_); focus (first | exact Nat.le_refl _ | omega | (simp; done) | (simp; omega)))))
theorem tdiv2 (n : Int) : (n.tmod 2 = 0 ∧ n = 2 * n.tdiv 2) ∨ (n.tmod 2 ≠ 0 ∧ n % 2 = 1) := by
  have h := Int.tmod_add_mul_tdiv n 2
  rcases Int.lt_or_le n 0 with h0 | h0
  · obtain ⟨m, rfl⟩ : ∃ m : Int, n = -m := ⟨-n, by omega⟩
    rw [Int.neg_tmod, Int.neg_tdiv, Int.tmod_eq_emod_of_nonneg (by omega), Int.tdiv_eq_ediv_of_nonneg (by omega)]
    omega
  · rw [Int.tmod_eq_emod_of_nonneg h0, Int.tdiv_eq_ediv_of_nonneg h0]
    omega
theorem tdiv2_abs (n b : Int) (h0 : -b ≤ n) (h1 : n ≤ b) : -b ≤ n.tdiv 2 ∧ n.tdiv 2 ≤ b := by
  have := Int.natAbs_tdiv_le_natAbs n 2
  omega
theorem tdiv_abs (n d b : Int) (h0 : -b ≤ n) (h1 : n ≤ b) : -b ≤ n.tdiv d ∧ n.tdiv d ≤ b := by
  have := Int.natAbs_tdiv_le_natAbs n d
  omega
theorem frac_step (n d n1 d1 q d2 : Int) (h : n1 * d = n * d1) (e1 : n1 = 2 * q) (e2 : d1 = 2 * d2) : q * d = n * d2 := by
  subst e1 e2
  have h1 : 2 * q * d = 2 * (q * d) := Int.mul_assoc ..
  have h2 : n * (2 * d2) = 2 * (n * d2) := Int.mul_left_comm ..
  omega
/-- n' / d' is n / d in sixteenths, in lowest terms. -/
def FracP (n d n' d' : Int) : Prop := n' * d = n * d' ∧ (d' = 1 ∨ d' = 2 ∨ d' = 4 ∨ d' = 8 ∨ d' = 16) ∧ -99999999999 ≤ n' ∧ n' ≤ 99999999999 ∧ (d' = 1 ∨ n' % 2 = 1)
def FracV (n d : Int) (v : Value) : Prop := v = .agg #[.int .i64 6, .int .i64 0, .int .i64 0, .string ⟨#[]⟩, .slice none 0 0] ∨ ∃ n' d' : Int, v = .agg #[.int .i64 1, .int .i64 n', .int .i64 d', .string ⟨#[]⟩, .slice none 0 0] ∧ FracP n d n' d'
def Sixteen (d : Int) : Prop := d = 1 ∨ d = 2 ∨ d = 4 ∨ d = 8 ∨ d = 16
theorem Sixteen.step {d : Int} (h : Sixteen d) (h1 : 1 < d) : ∃ d2, d = 2 * d2 ∧ Sixteen d2 ∧ 1 ≤ d2 ∧ d2 ≤ 8 := by
  unfold Sixteen at h
  exact ⟨d / 2, by omega, by unfold Sixteen; omega, by omega, by omega⟩
theorem fracV_mk {n d n1 d1 : Int} (he : n1 * d = n * d1) (hs : Sixteen d1) (h : n1 ≤ 99999999999 ∧ -99999999999 ≤ n1) (ho : d1 = 1 ∨ n1 % 2 = 1) : FracV n d (.agg #[.int .i64 1, .int .i64 n1, .int .i64 d1, .string ⟨#[]⟩, .slice none 0 0]) :=
  .inr ⟨n1, d1, rfl, he, hs, h.2, h.1, ho⟩
set_option maxHeartbeats 1000000 in
set_option maxRecDepth 100000 in
theorem c27 (n d : Int) (w : World) (hd0 : 1 ≤ d) (hd1 : d ≤ 1048576) (hn0 : -1125899906842624 ≤ n) (hn1 : n ≤ 1125899906842624) : Calls Tryz.prog 27 #[.int .i64 n, .int .i64 d] w (RetV w (FracV n d)) := by
  have hd2 : (d == 0) = false := by rw [beq_eq_false_iff_ne]; omega
  by_cases hm : (n * 16).tmod d = 0
  · have hm' : ((n * 16).tmod d != 0) = false := by simpa using hm
    have hq : n * 16 = (n * 16).tdiv d * d := by have := Int.tmod_add_mul_tdiv (n * 16) d; rw [hm, Int.zero_add, Int.mul_comm] at this; exact this.symm
    obtain ⟨hq0, hq1⟩ := tdiv_abs (n * 16) d 18014398509481984 (by omega) (by omega)
    have HQ := Lib.hid hq
    have HM := Lib.hid hm
    clear hq hm
    go_enter Tryz.func27, Tryz.ntmps27
    go_wp2_with fail
    go_loop [0, 1] (fun a b => ∃ n1 d1 : Int, a = .int .i64 n1 ∧ b = .int .i64 d1 ∧ n1 * d = n * d1 ∧ Sixteen d1 ∧ -18014398509481984 ≤ n1 ∧ n1 ≤ 18014398509481984) (fun _ b => (intOf b).toNat)
    case atStart => exact ⟨_, 16, rfl, rfl, HQ.out.symm, by unfold Sixteen; omega, hq0, hq1⟩
    case round =>
      obtain ⟨n1, d1, rfl, rfl, he, hs, hl, hu⟩ := hrel
      have HE := Lib.hid he
      clear he
      by_cases h1 : 1 < d1
      · obtain ⟨d2, hd2, hs2, hp, hq⟩ := hs.step h1
        obtain ⟨ha, hb⟩ := tdiv2_abs n1 18014398509481984 hl hu
        rcases tdiv2 n1 with ⟨hz, he2⟩ | ⟨hz, ho⟩
        · have hz' : (n1.tmod 2 == 0) = true := by rw [hz]; rfl
          have HE2 := Lib.hid he2
          have HD2 := Lib.hid hd2
          clear he2 hd2 hz hs
          have hdv : d1.tdiv 2 = d2 := by rw [HD2.out, Int.mul_comm]; exact Int.mul_tdiv_cancel _ (by decide)
          have hdv' : d1 / 2 = d2 := by rw [HD2.out]; omega
          go_wp2_with fail
          go_round
          case rel => exact ⟨_, d2, rfl, rfl, frac_step _ _ _ _ _ _ HE.out HE2.out HD2.out, hs2, ha, hb⟩
          case measure =>
            have := HD2.out
            simp only [intOf]
            omega
        · have hz' : (n1.tmod 2 == 0) = false := by simpa using hz
          clear hz hd2
          go_wp2_with (go_at_call 38; refine (c38 _).mono ?_; rintro e w1 ⟨rfl, hb1⟩; obtain ⟨hc1, hf1, hz1⟩ := bcell hb1; have hle1 := hb1.size; try have hs1 : w.heap.size < w1.heap.size := hz1 _ (by first | (simp; done) | (simp; omega) | omega); try have hs2 : w.heap.size + 1 < w1.heap.size := hz1 _ (by first | (simp; done) | (simp; omega) | omega); try have hs3 : w.heap.size + 1 + 1 < w1.heap.size := hz1 _ (by first | (simp; done) | (simp; omega) | omega))
          · exact bodyPost_ret (v := .agg #[.int .i64 6, .int .i64 0, .int .i64 0, .string ⟨#[]⟩, .slice none 0 0]) (by first | (simp [results, Tryz.results27, go_sem, hc1, hz1]; done) | (simp [results, Tryz.results27, go_sem]; done) | (simp [results, Tryz.results27, go_sem, *]; done)) rfl (retV_mk _ (.inl rfl) (by repeat (first | (with_reducible exact Below.refl _ _) | (with_reducible assumption) | ((with_reducible refine Below.alloc ?_ ?_ _); rotate_left; focus (first | exact Nat.le_refl _ | omega | (simp; done) | (simp; omega))) | ((with_reducible refine Below.setCell ?_ ?_ _); rotate_left; focus (first | exact Nat.le_refl _ | omega | (simp; done) | (simp; omega))) | (with_reducible refine Below.drew ?_) | (with_reducible refine below_drewN ?_ _) | ((with_reducible refine below_via (by assumption) ?_ ?_); focus (first | exact Nat.le_refl _ | omega | (simp; done) | (simp; omega))))))
          · exact bodyPost_ret (v := .agg #[.int .i64 1, .int .i64 n1, .int .i64 d1, .string ⟨#[]⟩, .slice none 0 0]) (by first | (simp [results, Tryz.results27, go_sem, hc1, hz1]; done) | (simp [results, Tryz.results27, go_sem]; done) | (simp [results, Tryz.results27, go_sem, *]; done)) rfl (retV_mk _ (fracV_mk HE.out hs (by assumption) (.inr ho)) (by repeat (first | (with_reducible exact Below.refl _ _) | (with_reducible assumption) | ((with_reducible refine Below.alloc ?_ ?_ _); rotate_left; focus (first | exact Nat.le_refl _ | omega | (simp; done) | (simp; omega))) | ((with_reducible refine Below.setCell ?_ ?_ _); rotate_left; focus (first | exact Nat.le_refl _ | omega | (simp; done) | (simp; omega))) | (with_reducible refine Below.drew ?_) | (with_reducible refine below_drewN ?_ _) | ((with_reducible refine below_via (by assumption) ?_ ?_); focus (first | exact Nat.le_refl _ | omega | (simp; done) | (simp; omega))))))
          · exact bodyPost_ret (v := .agg #[.int .i64 6, .int .i64 0, .int .i64 0, .string ⟨#[]⟩, .slice none 0 0]) (by first | (simp [results, Tryz.results27, go_sem, hc1, hz1]; done) | (simp [results, Tryz.results27, go_sem]; done) | (simp [results, Tryz.results27, go_sem, *]; done)) rfl (retV_mk _ (.inl rfl) (by repeat (first | (with_reducible exact Below.refl _ _) | (with_reducible assumption) | ((with_reducible refine Below.alloc ?_ ?_ _); rotate_left; focus (first | exact Nat.le_refl _ | omega | (simp; done) | (simp; omega))) | ((with_reducible refine Below.setCell ?_ ?_ _); rotate_left; focus (first | exact Nat.le_refl _ | omega | (simp; done) | (simp; omega))) | (with_reducible refine Below.drew ?_) | (with_reducible refine below_drewN ?_ _) | ((with_reducible refine below_via (by assumption) ?_ ?_); focus (first | exact Nat.le_refl _ | omega | (simp; done) | (simp; omega))))))
      · have hs1 : d1 = 1 := by unfold Sixteen at hs; omega
        have HS := Lib.hid hs1
        clear hs1
        go_wp2_with (go_at_call 38; refine (c38 _).mono ?_; rintro e w1 ⟨rfl, hb1⟩; obtain ⟨hc1, hf1, hz1⟩ := bcell hb1; have hle1 := hb1.size; try have hs1 : w.heap.size < w1.heap.size := hz1 _ (by first | (simp; done) | (simp; omega) | omega); try have hs2 : w.heap.size + 1 < w1.heap.size := hz1 _ (by first | (simp; done) | (simp; omega) | omega); try have hs3 : w.heap.size + 1 + 1 < w1.heap.size := hz1 _ (by first | (simp; done) | (simp; omega) | omega))
        · exact bodyPost_ret (v := .agg #[.int .i64 6, .int .i64 0, .int .i64 0, .string ⟨#[]⟩, .slice none 0 0]) (by first | (simp [results, Tryz.results27, go_sem, hc1, hz1]; done) | (simp [results, Tryz.results27, go_sem]; done) | (simp [results, Tryz.results27, go_sem, *]; done)) rfl (retV_mk _ (.inl rfl) (by repeat (first | (with_reducible exact Below.refl _ _) | (with_reducible assumption) | ((with_reducible refine Below.alloc ?_ ?_ _); rotate_left; focus (first | exact Nat.le_refl _ | omega | (simp; done) | (simp; omega))) | ((with_reducible refine Below.setCell ?_ ?_ _); rotate_left; focus (first | exact Nat.le_refl _ | omega | (simp; done) | (simp; omega))) | (with_reducible refine Below.drew ?_) | (with_reducible refine below_drewN ?_ _) | ((with_reducible refine below_via (by assumption) ?_ ?_); focus (first | exact Nat.le_refl _ | omega | (simp; done) | (simp; omega))))))
        · exact bodyPost_ret (v := .agg #[.int .i64 1, .int .i64 n1, .int .i64 d1, .string ⟨#[]⟩, .slice none 0 0]) (by first | (simp [results, Tryz.results27, go_sem, hc1, hz1]; done) | (simp [results, Tryz.results27, go_sem]; done) | (simp [results, Tryz.results27, go_sem, *]; done)) rfl (retV_mk _ (fracV_mk HE.out hs (by assumption) (.inl HS.out)) (by repeat (first | (with_reducible exact Below.refl _ _) | (with_reducible assumption) | ((with_reducible refine Below.alloc ?_ ?_ _); rotate_left; focus (first | exact Nat.le_refl _ | omega | (simp; done) | (simp; omega))) | ((with_reducible refine Below.setCell ?_ ?_ _); rotate_left; focus (first | exact Nat.le_refl _ | omega | (simp; done) | (simp; omega))) | (with_reducible refine Below.drew ?_) | (with_reducible refine below_drewN ?_ _) | ((with_reducible refine below_via (by assumption) ?_ ?_); focus (first | exact Nat.le_refl _ | omega | (simp; done) | (simp; omega))))))
        · exact bodyPost_ret (v := .agg #[.int .i64 6, .int .i64 0, .int .i64 0, .string ⟨#[]⟩, .slice none 0 0]) (by first | (simp [results, Tryz.results27, go_sem, hc1, hz1]; done) | (simp [results, Tryz.results27, go_sem]; done) | (simp [results, Tryz.results27, go_sem, *]; done)) rfl (retV_mk _ (.inl rfl) (by repeat (first | (with_reducible exact Below.refl _ _) | (with_reducible assumption) | ((with_reducible refine Below.alloc ?_ ?_ _); rotate_left; focus (first | exact Nat.le_refl _ | omega | (simp; done) | (simp; omega))) | ((with_reducible refine Below.setCell ?_ ?_ _); rotate_left; focus (first | exact Nat.le_refl _ | omega | (simp; done) | (simp; omega))) | (with_reducible refine Below.drew ?_) | (with_reducible refine below_drewN ?_ _) | ((with_reducible refine below_via (by assumption) ?_ ?_); focus (first | exact Nat.le_refl _ | omega | (simp; done) | (simp; omega))))))
  · have hm' : ((n * 16).tmod d != 0) = true := by simpa using hm
    go_enter Tryz.func27, Tryz.ntmps27
    go_wp2_with (go_at_call 38; refine (c38 _).mono ?_; rintro e w1 ⟨rfl, hb1⟩; obtain ⟨hc1, hf1, hz1⟩ := bcell hb1; have hle1 := hb1.size; try have hs1 : w.heap.size < w1.heap.size := hz1 _ (by first | (simp; done) | (simp; omega) | omega); try have hs2 : w.heap.size + 1 < w1.heap.size := hz1 _ (by first | (simp; done) | (simp; omega) | omega); try have hs3 : w.heap.size + 1 + 1 < w1.heap.size := hz1 _ (by first | (simp; done) | (simp; omega) | omega))
    exact bodyPost_ret (v := .agg #[.int .i64 6, .int .i64 0, .int .i64 0, .string ⟨#[]⟩, .slice none 0 0]) (by first | (simp [results, Tryz.results27, go_sem, hc1, hz1]; done) | (simp [results, Tryz.results27, go_sem]; done) | (simp [results, Tryz.results27, go_sem, *]; done)) rfl (retV_mk _ (.inl rfl) (by repeat (first | (with_reducible exact Below.refl _ _) | (with_reducible assumption) | ((with_reducible refine Below.alloc ?_ ?_ _); rotate_left; focus (first | exact Nat.le_refl _ | omega | (simp; done) | (simp; omega))) | ((with_reducible refine Below.setCell ?_ ?_ _); rotate_left; focus (first | exact Nat.le_refl _ | omega | (simp; done) | (simp; omega))) | (with_reducible refine Below.drew ?_) | (with_reducible refine below_drewN ?_ _) | ((with_reducible refine below_via (by assumption) ?_ ?_); focus (first | exact Nat.le_refl _ | omega | (simp; done) | (simp; omega))))))
end Go.Proofs.YtpahhejkpdkjmaaGreatDoor
