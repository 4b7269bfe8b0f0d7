/- shortFloat: its small callees, and itself at whatever number. -/
import Derived.Test.YtkhgaenffnoimaaGreatDoorK2
set_option linter.unusedSimpArgs false
set_option linter.unusedVariables false
namespace Go.Proofs.YtkhgaenffnoimaaGreatDoor
open Go.RowKit
attribute [local go_sem] run_store_float
set_option maxRecDepth 100000 in
theorem c164 (a : Int) (w : World) (h0 : -1000 ≤ a) (h1 : a ≤ 1000) : Calls Tryz.prog 164 #[.int .i64 a] w (fun e w' => e = .returned (.int .i64 (a * 78913 / 262144)) ∧ w' = w) := by
  go_enter Tryz.func164, Tryz.ntmps164
  go_wp2_with fail
  go_ret
  exact ⟨by first | rfl | simp, rfl⟩
set_option maxRecDepth 100000 in
theorem c212 (a : Int) (w : World) (h0 : -1000 ≤ a) (h1 : a ≤ 1000) : Calls Tryz.prog 212 #[.int .i64 a] w (fun e w' => e = .returned (.int .i64 ((a * 631305 - 261663) / 2097152)) ∧ w' = w) := by
  go_enter Tryz.func212, Tryz.ntmps212
  go_wp2_with fail
  go_ret
  exact ⟨by first | rfl | simp, rfl⟩
set_option maxRecDepth 100000 in
theorem c214 (a : Int) (w : World) (h0 : -1000 ≤ a) (h1 : a ≤ 1000) : Calls Tryz.prog 214 #[.int .i64 a] w (fun e w' => e = .returned (.int .i64 (a * 108853 / 32768)) ∧ w' = w) := by
  go_enter Tryz.func214, Tryz.ntmps214
  go_wp2_with fail
  go_ret
  exact ⟨by first | rfl | simp, rfl⟩
set_option maxRecDepth 100000 in
theorem c216 (u : Nat) (w : World) (h : u < 18446744073709551616) : Calls Tryz.prog 216 #[.int .u64 u, .int .i64 0] w (fun e w' => e = .returned (.int .u64 u) ∧ w' = w) := by
  have hw := wrap_u64_small u h
  go_enter Tryz.func216, Tryz.ntmps216
  go_wp2_with fail
  go_ret
  exact ⟨by first | rfl | simp, rfl⟩
set_option maxRecDepth 100000 in
theorem c217 (u : Nat) (w : World) (h : u < 18446744073709551000) : Calls Tryz.prog 217 #[.int .u64 u] w (fun e w' => e = .returned (.int .u64 (((u + 3) / 4 : Nat) : Int)) ∧ w' = w) := by
  have hw := wrap_u64_small (u + 3) (by omega)
  have hw2 : IntKind.u64.wrap ((u : Int) + 3) = ((u + 3 : Nat) : Int) := by simpa using hw
  go_enter Tryz.func217, Tryz.ntmps217
  go_wp2_with fail
  go_ret
  exact ⟨by first | rfl | simp, rfl⟩
set_option maxRecDepth 100000 in
theorem c218 (u : Nat) (w : World) (h : u < 18446744073709551616) : Calls Tryz.prog 218 #[.int .u64 u] w (fun e w' => e = .returned (.int .u64 ((u / 4 : Nat) : Int)) ∧ w' = w) := by
  have hw := wrap_u64_small u h
  go_enter Tryz.func218, Tryz.ntmps218
  go_wp2_with fail
  go_ret
  exact ⟨by first | rfl | simp, rfl⟩
theorem frozen_alloc0 (w : World) (cs : Array Value) (e : TypeId) (o : Nat) : (w.alloc (.cells cs e)).frozen? ⟨w.heap.size, o, none⟩ = false := by
  have h : (w.alloc (.cells cs e)).heap[w.heap.size]? = some (.cells cs e (0, 0)) := heap_alloc_new w _
  unfold World.frozen?
  simp only [h]
  simp
def pmOf (p : Nat) : Nat := 10 ^ p * 2 ^ (63 - p * 108853 / 32768)
/-- The powers of ten from 10^10 to 10^16, as the library's table has them. -/
def PowTab (w : World) : Prop := 18 < w.heap.size ∧ ∀ p, 10 ≤ p → p ≤ 16 → w.cell? ⟨18, (p + 348) * 2, none⟩ = some (.int .u64 (pmOf p)) ∧ w.cell? ⟨18, (p + 348) * 2 + 1, none⟩ = some (.int .u64 0)
theorem PowTab.below {w w1 : World} {B : Nat} (h : PowTab w) (hb : Below B w w1) (h4 : 18 < B) : PowTab w1 :=
  ⟨Nat.lt_of_lt_of_le h.1 hb.size, fun p h0 h1 => ⟨(hb.cell (p := ⟨18, _, none⟩) h4).trans (h.2 p h0 h1).1, (hb.cell (p := ⟨18, _, none⟩) h4).trans (h.2 p h0 h1).2⟩⟩
/-- What prescale leaves. -/
def preW (w : World) (b : Nat) (x y : Value) (s : Int) : World := ((w.setCell ⟨b, 0, none⟩ x).setCell ⟨b, 1, none⟩ y).setCell ⟨b, 2, none⟩ (.int .i64 s)
set_option maxRecDepth 100000 in
set_option maxHeartbeats 4000000 in
theorem c213 (b p : Nat) (e lp : Int) (w : World) (hb : b < w.heap.size) (hb4 : b ≠ 18) (h0 : -1000 ≤ e) (h1 : e ≤ 1000) (h2 : 0 ≤ lp) (h3 : lp ≤ 1000) (hp0 : 10 ≤ p) (hp1 : p ≤ 16)
    (c0 : w.cell? ⟨b, 0, none⟩ = some (.int .u64 0)) (c1 : w.cell? ⟨b, 1, none⟩ = some (.int .u64 0)) (c2 : w.cell? ⟨b, 2, none⟩ = some (.int .i64 0)) (f : ∀ o, w.frozen? ⟨b, o, none⟩ = false) (hT : PowTab w) :
    Calls Tryz.prog 213 #[.pointer (some ⟨b, 0, none⟩), .int .i64 e, .int .i64 p, .int .i64 lp] w (fun en w' => en = .returned (.tuple #[]) ∧ w' = preW w b (.int .u64 (pmOf p)) (.int .u64 0) (-(e + lp + 3))) := by
  obtain ⟨t0, t1⟩ := hT.2 p hp0 hp1
  clear hT
  generalize pmOf p = x at t0 ⊢
  have hp : p = 10 ∨ p = 11 ∨ p = 12 ∨ p = 13 ∨ p = 14 ∨ p = 15 ∨ p = 16 := by omega
  clear hp0 hp1
  rcases hp with rfl | rfl | rfl | rfl | rfl | rfl | rfl
  all_goals
    simp only [Nat.reduceAdd, Nat.reduceMul, Int.cast_ofNat_Int] at t0 t1 ⊢
    go_enter Tryz.func213, Tryz.ntmps213
    go_wp2_with fail
    exact bodyPost_end (v := .tuple #[]) (by simp [results, Tryz.results213, go_sem]) rfl ⟨rfl, rfl⟩
set_option maxRecDepth 100000 in
set_option maxHeartbeats 4000000 in
/-- shortFloat where the number is no power of two. -/
theorem c193g (m p s D : Nat) (e : Int) (w : World) (hT : PowTab w) (hm0 : 4503599627370496 ≤ m) (hm1 : m < 18446744073709550000) (hm : m ≠ 9223372036854775808) (he0 : -63 ≤ e) (he1 : e ≤ -44)
    (hodd : bits BinOp.and IntKind.i64 ((m : Int) / 2048) 1 = 0) (hp0 : 10 ≤ p) (hp1 : p ≤ 16) (hp : (e + 11) * 78913 / 262144 = -(p : Int)) (hs : -(e + (p : Int) * 108853 / 32768 + 3) = (s : Int)) (hs1 : s < 64) (hpm : pmOf p < 18446744073709551616)
    (hD : ∀ u1 u2, UQ ((m - 1024) * pmOf p / 18446744073709551616 / 2 ^ s) u1 → UQ ((m + 1024) * pmOf p / 18446744073709551616 / 2 ^ s) u2 → u1 < 18446744073709551000 ∧ u2 < 18446744073709551000 ∧ u2 / 4 / 10 = D ∧ (u1 + 3) / 4 ≤ D * 10 ∧ D * 10 < 18446744073709551616) :
    Calls Tryz.prog 193 #[.int .u64 m, .int .i64 e] w (fun en w' => en = .returned (.tuple #[.int .u64 D, .int .i64 (1 - (p : Int))]) ∧ Below w.heap.size w w') := by
  have HD := Lib.hid hD
  clear hD
  have hmi : ¬ ((m : Int) = 9223372036854775808) := by omega
  go_enter Tryz.func193, Tryz.ntmps193
  go_wp2_with (first
    | (go_at_call 164; refine (c164 (e + 11) _ (by omega) (by omega)).mono ?_; rintro e1 w1 ⟨rfl, rfl⟩; rw [hp])
    | (go_at_call 214; refine (c214 (p : Int) _ (by omega) (by omega)).mono ?_; rintro e1 w1 ⟨rfl, rfl⟩))
  have hbA : Below w1.heap.size w1 (w1.alloc (.cells #[.int .u64 0, .int .u64 0, .int .i64 0] 274)) := (by repeat (first | (with_reducible exact Below.refl _ _) | (with_reducible assumption) | ((with_reducible refine Below.alloc ?_ ?_ _); rotate_left; focus (first | exact Nat.le_refl _ | omega | (simp; done) | (simp; omega))) | ((with_reducible refine Below.setCell ?_ ?_ _); rotate_left; focus (first | exact Nat.le_refl _ | omega | (simp; done) | (simp; omega))) | (with_reducible refine Below.drew ?_) | (with_reducible refine below_drewN ?_ _) | ((with_reducible refine below_via (by assumption) ?_ ?_); focus (first | exact Nat.le_refl _ | omega | (simp; done) | (simp; omega)))))
  refine (c213 w1.heap.size p e _ _ (by simp) (by have := hT.1; omega) (by omega) (by omega) (by omega) (by omega) hp0 hp1 (by simp [go_sem]) (by simp [go_sem]) (by simp [go_sem]) (fun o => frozen_alloc0 _ _ _ _) (hT.below hbA hT.1)).mono ?_
  rintro e1 w2 ⟨rfl, hw2⟩
  rw [hs] at hw2
  have d0 : w2.cell? ⟨w1.heap.size, 0, none⟩ = some (.int .u64 (pmOf p)) := by rw [hw2]; simp [preW, go_sem]
  have d1 : w2.cell? ⟨w1.heap.size, 1, none⟩ = some (.int .u64 0) := by rw [hw2]; simp [preW, go_sem]
  have d2 : w2.cell? ⟨w1.heap.size, 2, none⟩ = some (.int .i64 s) := by rw [hw2]; simp [preW, go_sem]
  have hb2 : Below w1.heap.size w1 w2 := by rw [hw2]; unfold preW; exact (by repeat (first | (with_reducible exact Below.refl _ _) | (with_reducible assumption) | ((with_reducible refine Below.alloc ?_ ?_ _); rotate_left; focus (first | exact Nat.le_refl _ | omega | (simp; done) | (simp; omega))) | ((with_reducible refine Below.setCell ?_ ?_ _); rotate_left; focus (first | exact Nat.le_refl _ | omega | (simp; done) | (simp; omega))) | (with_reducible refine Below.drew ?_) | (with_reducible refine below_drewN ?_ _) | ((with_reducible refine below_via (by assumption) ?_ ?_); focus (first | exact Nat.le_refl _ | omega | (simp; done) | (simp; omega)))))
  have hw2s := hw2
  clear hw2 hbA
  have hlt2 : w1.heap.size < w2.heap.size := by rw [hw2s]; unfold preW; simp [World.setCell]
  clear hw2s
  go_wp2_with fail
  have em1 : ((m - 1024 : Nat) : Int) = (m : Int) - 1024 := by omega
  have H1 := c215 (m - 1024) (pmOf p) s w1.heap.size w2 (by omega) hpm hs1 d0 d1 d2
  rw [em1] at H1
  refine H1.mono ?_
  rintro e1 w3 ⟨u1, rfl, hu1, n1, hw3⟩
  have hb3 : Below w2.heap.size w2 w3 := by rw [hw3]; exact ⟨rfl, rfl, rfl, Nat.le_refl _, fun _ _ => rfl⟩
  clear hw3 H1 em1
  have hub1 := (HD.out u1 _ hu1 (.inl rfl)).1
  have f0 := (hb3.cell (p := ⟨w1.heap.size, 0, none⟩) hlt2).trans d0
  have f1 := (hb3.cell (p := ⟨w1.heap.size, 1, none⟩) hlt2).trans d1
  have f2 := (hb3.cell (p := ⟨w1.heap.size, 2, none⟩) hlt2).trans d2
  have hb13 : Below w1.heap.size w1 w3 := hb2.trans (hb3.mono (by omega))
  have hlt3 : w1.heap.size < w3.heap.size := Nat.lt_of_lt_of_le hlt2 hb3.size
  clear d0 d1 d2 hb2 hb3
  go_wp2_with fail
  refine (c216 u1 _ (by omega)).mono ?_
  rintro e1 w4 ⟨rfl, rfl⟩
  go_wp2_with fail
  obtain ⟨a, ha⟩ : ∃ a, a = (u1 + 3) / 4 := ⟨_, rfl⟩
  have H3 := c217 u1 w4 hub1
  rw [← ha] at H3
  have HA := Lib.hid ha
  clear ha
  refine H3.mono ?_
  rintro e1 w5 ⟨rfl, rfl⟩
  clear H3
  go_wp2_with fail
  have em2 : ((m + 1024 : Nat) : Int) = (m : Int) + 1024 := by omega
  have H2 := c215 (m + 1024) (pmOf p) s w1.heap.size w5 (by omega) hpm hs1 f0 f1 f2
  rw [em2] at H2
  refine H2.mono ?_
  rintro e1 w6 ⟨u2, rfl, hu2, n2, hw6⟩
  have hb6 : Below w5.heap.size w5 w6 := by rw [hw6]; exact ⟨rfl, rfl, rfl, Nat.le_refl _, fun _ _ => rfl⟩
  clear hw6 H2 em2
  have hb16 : Below w1.heap.size w1 w6 := hb13.trans (hb6.mono (by omega))
  obtain ⟨_, hub2, hd1, hd2, hd3⟩ := HD.out u1 u2 hu1 hu2
  clear hb13 hb6 f0 f1 f2
  go_wp2_with fail
  refine (c216 u2 _ (by omega)).mono ?_
  rintro e1 w7 ⟨rfl, rfl⟩
  go_wp2_with fail
  obtain ⟨c, hc⟩ : ∃ c, c = u2 / 4 := ⟨_, rfl⟩
  have H4 := c218 u2 w7 (by omega)
  rw [← hc] at H4
  have HC := Lib.hid hc
  clear hc
  refine H4.mono ?_
  rintro e1 w8 ⟨rfl, rfl⟩
  clear H4
  have hq : (c : Int) / 10 = (D : Int) := by have := HC.out; omega
  have hge : (a : Int) ≤ (D : Int) * 10 := by have := HA.out; omega
  have hwD : (D : Int) * 10 < 18446744073709551616 := by omega
  clear hd1 hd2 hd3 hu1 hu2 HD hub1 hodd hp hs hpm hT HC HA hlt2 hlt3 hm0 hm1 hm he0 he1 hs1 hmi hub2
  go_wp2_with fail
  (refine bodyPost_ret (v := .tuple #[.int .u64 D, .int .i64 (-((p : Int) - 1))]) ?_ rfl ?_; (focus (first | (simp [results, Tryz.results193, go_sem, hc1, hz1]; done) | (simp [results, Tryz.results193, go_sem]; done) | (simp [results, Tryz.results193, go_sem, *]; done))); exact ⟨by rw [show -((p : Int) - 1) = 1 - (p : Int) by omega], hb16⟩)
set_option maxRecDepth 100000 in
set_option maxHeartbeats 4000000 in
/-- shortFloat at a power of two. -/
theorem c193s (p s D : Nat) (e : Int) (w : World) (hT : PowTab w) (he0 : -63 ≤ e) (he1 : e ≤ -44)
    (hp0 : 10 ≤ p) (hp1 : p ≤ 16) (hp : ((e + 11) * 631305 - 261663) / 2097152 = -(p : Int)) (hs : -(e + (p : Int) * 108853 / 32768 + 3) = (s : Int)) (hs1 : s < 64) (hpm : pmOf p < 18446744073709551616)
    (hD : ∀ u1 u2, UQ (9223372036854775296 * pmOf p / 18446744073709551616 / 2 ^ s) u1 → UQ (9223372036854776832 * pmOf p / 18446744073709551616 / 2 ^ s) u2 → u1 < 18446744073709551000 ∧ u2 < 18446744073709551000 ∧ u2 / 4 / 10 = D ∧ (u1 + 3) / 4 ≤ D * 10 ∧ D * 10 < 18446744073709551616) :
    Calls Tryz.prog 193 #[.int .u64 9223372036854775808, .int .i64 e] w (fun en w' => en = .returned (.tuple #[.int .u64 D, .int .i64 (1 - (p : Int))]) ∧ Below w.heap.size w w') := by
  have HD := Lib.hid hD
  clear hD
  have hodd : bits BinOp.and IntKind.i64 4503599627370496 1 = 0 := by decide +kernel
  go_enter Tryz.func193, Tryz.ntmps193
  go_wp2_with (first
    | (go_at_call 212; refine (c212 (e + 11) _ (by omega) (by omega)).mono ?_; rintro e1 w1 ⟨rfl, rfl⟩; rw [hp])
    | (go_at_call 214; refine (c214 (p : Int) _ (by omega) (by omega)).mono ?_; rintro e1 w1 ⟨rfl, rfl⟩))
  have hbA : Below w1.heap.size w1 (w1.alloc (.cells #[.int .u64 0, .int .u64 0, .int .i64 0] 274)) := (by repeat (first | (with_reducible exact Below.refl _ _) | (with_reducible assumption) | ((with_reducible refine Below.alloc ?_ ?_ _); rotate_left; focus (first | exact Nat.le_refl _ | omega | (simp; done) | (simp; omega))) | ((with_reducible refine Below.setCell ?_ ?_ _); rotate_left; focus (first | exact Nat.le_refl _ | omega | (simp; done) | (simp; omega))) | (with_reducible refine Below.drew ?_) | (with_reducible refine below_drewN ?_ _) | ((with_reducible refine below_via (by assumption) ?_ ?_); focus (first | exact Nat.le_refl _ | omega | (simp; done) | (simp; omega)))))
  refine (c213 w1.heap.size p e _ _ (by simp) (by have := hT.1; omega) (by omega) (by omega) (by omega) (by omega) hp0 hp1 (by simp [go_sem]) (by simp [go_sem]) (by simp [go_sem]) (fun o => frozen_alloc0 _ _ _ _) (hT.below hbA hT.1)).mono ?_
  rintro e1 w2 ⟨rfl, hw2⟩
  rw [hs] at hw2
  have d0 : w2.cell? ⟨w1.heap.size, 0, none⟩ = some (.int .u64 (pmOf p)) := by rw [hw2]; simp [preW, go_sem]
  have d1 : w2.cell? ⟨w1.heap.size, 1, none⟩ = some (.int .u64 0) := by rw [hw2]; simp [preW, go_sem]
  have d2 : w2.cell? ⟨w1.heap.size, 2, none⟩ = some (.int .i64 s) := by rw [hw2]; simp [preW, go_sem]
  have hb2 : Below w1.heap.size w1 w2 := by rw [hw2]; unfold preW; exact (by repeat (first | (with_reducible exact Below.refl _ _) | (with_reducible assumption) | ((with_reducible refine Below.alloc ?_ ?_ _); rotate_left; focus (first | exact Nat.le_refl _ | omega | (simp; done) | (simp; omega))) | ((with_reducible refine Below.setCell ?_ ?_ _); rotate_left; focus (first | exact Nat.le_refl _ | omega | (simp; done) | (simp; omega))) | (with_reducible refine Below.drew ?_) | (with_reducible refine below_drewN ?_ _) | ((with_reducible refine below_via (by assumption) ?_ ?_); focus (first | exact Nat.le_refl _ | omega | (simp; done) | (simp; omega)))))
  have hw2s := hw2
  clear hw2 hbA
  have hlt2 : w1.heap.size < w2.heap.size := by rw [hw2s]; unfold preW; simp [World.setCell]
  clear hw2s
  go_wp2_with fail
  have H1 := c215 9223372036854775296 (pmOf p) s w1.heap.size w2 (by omega) hpm hs1 d0 d1 d2
  refine H1.mono ?_
  rintro e1 w3 ⟨u1, rfl, hu1, n1, hw3⟩
  have hb3 : Below w2.heap.size w2 w3 := by rw [hw3]; exact ⟨rfl, rfl, rfl, Nat.le_refl _, fun _ _ => rfl⟩
  clear hw3 H1
  have hub1 := (HD.out u1 _ hu1 (.inl rfl)).1
  have f0 := (hb3.cell (p := ⟨w1.heap.size, 0, none⟩) hlt2).trans d0
  have f1 := (hb3.cell (p := ⟨w1.heap.size, 1, none⟩) hlt2).trans d1
  have f2 := (hb3.cell (p := ⟨w1.heap.size, 2, none⟩) hlt2).trans d2
  have hb13 : Below w1.heap.size w1 w3 := hb2.trans (hb3.mono (by omega))
  have hlt3 : w1.heap.size < w3.heap.size := Nat.lt_of_lt_of_le hlt2 hb3.size
  clear d0 d1 d2 hb2 hb3
  go_wp2_with fail
  refine (c216 u1 _ (by omega)).mono ?_
  rintro e1 w4 ⟨rfl, rfl⟩
  go_wp2_with fail
  obtain ⟨a, ha⟩ : ∃ a, a = (u1 + 3) / 4 := ⟨_, rfl⟩
  have H3 := c217 u1 w4 hub1
  rw [← ha] at H3
  have HA := Lib.hid ha
  clear ha
  refine H3.mono ?_
  rintro e1 w5 ⟨rfl, rfl⟩
  clear H3
  go_wp2_with fail
  have H2 := c215 9223372036854776832 (pmOf p) s w1.heap.size w5 (by omega) hpm hs1 f0 f1 f2
  refine H2.mono ?_
  rintro e1 w6 ⟨u2, rfl, hu2, n2, hw6⟩
  have hb6 : Below w5.heap.size w5 w6 := by rw [hw6]; exact ⟨rfl, rfl, rfl, Nat.le_refl _, fun _ _ => rfl⟩
  clear hw6 H2
  have hb16 : Below w1.heap.size w1 w6 := hb13.trans (hb6.mono (by omega))
  obtain ⟨_, hub2, hd1, hd2, hd3⟩ := HD.out u1 u2 hu1 hu2
  clear hb13 hb6 f0 f1 f2
  go_wp2_with fail
  refine (c216 u2 _ (by omega)).mono ?_
  rintro e1 w7 ⟨rfl, rfl⟩
  go_wp2_with fail
  obtain ⟨c, hc⟩ : ∃ c, c = u2 / 4 := ⟨_, rfl⟩
  have H4 := c218 u2 w7 (by omega)
  rw [← hc] at H4
  have HC := Lib.hid hc
  clear hc
  refine H4.mono ?_
  rintro e1 w8 ⟨rfl, rfl⟩
  clear H4
  have hq : (c : Int) / 10 = (D : Int) := by have := HC.out; omega
  have hge : (a : Int) ≤ (D : Int) * 10 := by have := HA.out; omega
  have hwD : (D : Int) * 10 < 18446744073709551616 := by omega
  clear hd1 hd2 hd3 hu1 hu2 HD hub1 hodd hp hs hpm hT HC HA hlt2 hlt3 he0 he1 hs1 hub2
  go_wp2_with fail
  (refine bodyPost_ret (v := .tuple #[.int .u64 D, .int .i64 (-((p : Int) - 1))]) ?_ rfl ?_; (focus (first | (simp [results, Tryz.results193, go_sem, hc1, hz1]; done) | (simp [results, Tryz.results193, go_sem]; done) | (simp [results, Tryz.results193, go_sem, *]; done))); exact ⟨by rw [show -((p : Int) - 1) = 1 - (p : Int) by omega], hb16⟩)
end Go.Proofs.YtkhgaenffnoimaaGreatDoor
