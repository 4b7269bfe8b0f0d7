/- said of a number. -/
import Derived.Test.YtkhgaenffnoimaaGreatDoorN9
set_option linter.unusedSimpArgs false
set_option linter.unusedVariables false
namespace Go.Proofs.YtkhgaenffnoimaaGreatDoor
open Go.RowKit FL
attribute [local go_sem] run_store_float as64
theorem tera : floatOfInt FloatKind.f64 1000000000000 = 4786511204640096256 := by decide
theorem teraN : floatOfInt FloatKind.f64 (-1000000000000) = 14009883241494872064 := by decide
theorem sixteen : floatOfInt FloatKind.f64 16 = 4625196817309499392 := by decide
theorem order_foi (a b : Int) (ha : a.natAbs < 562949953421312) (hb : b.natAbs < 562949953421312) : FloatKind.f64.format.order (floatOfInt FloatKind.f64 a) (floatOfInt FloatKind.f64 b) = some (compare (16 * a) (16 * b)) := by
  rw [foi_F16 a ha, foi_F16 b hb]
  exact order_F16 (16 * a) (16 * b) (by omega) (by omega)
theorem cmp_lt (a b : Int) (h : a < b) : compare (16 * a) (16 * b) = Ordering.lt := by
  simp only [compare, compareOfLessAndEq]
  rw [if_pos (by omega)]
theorem cmp_gt (a b : Int) (h : b < a) : compare (16 * a) (16 * b) = Ordering.gt := by
  simp only [compare, compareOfLessAndEq]
  rw [if_neg (by omega), if_neg (by omega)]
set_option maxRecDepth 100000 in
set_option maxHeartbeats 1000000 in
theorem c19N (F : Nat) (ofI : V → I) (xs : List V) (A : Option Addr) (c m : Nat) (w : World) (hm : m ≤ 99999999999) (hl : xs.length ≤ 1000) (h0 : 0 < xs.length) (hx : VRow w A xs)
    (hf : ∀ v, v ∈ xs → ∀ w', Calls Tryz.prog 44 #[.agg #[.int .i64 v.k, .int .i64 v.n, .int .i64 v.d, .string v.t, .slice none 0 0]] w' (Ret w' (.agg #[.int .i64 (ofI v).k, .float .f64 (ofI v).b, .string (ofI v).t, .slice none 0 0])))
    (hent : ∀ (args : Array Value) (W : World), (callFunc F args).run Tryz.prog W = .ok (.enter F args) W)
    (hF : ∀ W A' c', Below w.heap.size w W → IRow W A' (xs.map ofI) → Calls Tryz.prog F #[.slice A' (xs.map ofI).length c'] W (Ret W (.agg #[.int .i64 1, .float .f64 (floatOfInt FloatKind.f64 (m : Int)), .string ⟨#[]⟩, .slice none 0 0]))) :
    Calls Tryz.prog 19 #[.func (.func F) #[] #[], .slice A xs.length c] w (Ret w (.agg #[.int .i64 1, .int .i64 (m : Int), .int .i64 1, .string ⟨#[]⟩, .slice none 0 0])) := by
  obtain ⟨h26, hFF⟩ := c19pre F ofI xs A c w ⟨1, floatOfInt FloatKind.f64 (m : Int), ⟨#[]⟩⟩ hl h0 hx hf hF
  have H26 := Lib.hid h26
  have HF := Lib.hid hFF
  have o1 : FloatKind.f64.format.order (floatOfInt FloatKind.f64 (m : Int)) 14009883241494872064 = some .gt := by
    rw [← teraN, order_foi _ _ (by omega) (by decide), cmp_gt _ _ (by omega)]
  have o2 : FloatKind.f64.format.order (floatOfInt FloatKind.f64 (m : Int)) 4786511204640096256 = some .lt := by
    rw [← tera, order_foi _ _ (by omega) (by decide), cmp_lt _ _ (by omega)]
  have hmul : ∀ W, (binOp BinOp.mul 24 (.float FloatKind.f64 (floatOfInt FloatKind.f64 (m : Int))) (.float FloatKind.f64 4625196817309499392)).run Tryz.prog W = .ok (.float FloatKind.f64 (floatOfInt FloatKind.f64 (16 * (m : Int)))) W := fun W => by
    rw [← sixteen, foi_F16 _ (by omega), foi_F16 16 (by decide), foi_F16 (16 * (m : Int)) (by omega)]
    exact run_float_arith W _ _ _ _ _ _ (mul_F16 (16 * (m : Int)) (16 * 16) (16 * (16 * (m : Int))) (by omega) (by decide) (by omega) (by omega) (by omega))
  have o3 := foi_order (16 * (m : Int)) (by omega)
  have hcv := conv_foi 3 Tryz.underlying3 (16 * (m : Int)) (by omega)
  have H36 := Lib.hid (fun W => c36 m W hm)
  clear hF hf hx h26 hFF hm
  obtain ⟨n, hn⟩ : ∃ n, n = xs.length := ⟨_, rfl⟩
  rw [← hn] at H26 HF ⊢
  clear hn hl h0
  generalize floatOfInt FloatKind.f64 (m : Int) = fm at *
  obtain ⟨f16, hf16⟩ : ∃ f, f = floatOfInt FloatKind.f64 (16 * (m : Int)) := ⟨_, rfl⟩
  rw [← hf16] at hmul o3 hcv
  have hf16' := hf16.symm
  clear hf16
  go_enter Tryz.func19, Tryz.ntmps19
  go_wp2_with fail
  have hbA : Below w.heap.size w (w.alloc (.cells #[.int .i64 0, .int .i64 0, .int .i64 0, .string ⟨#[]⟩, .slice none 0 0] 32)) := (by repeat (first | (with_reducible exact Below.refl _ _) | (with_reducible assumption) | ((with_reducible refine Below.alloc ?_ ?_ _); rotate_left; focus (first | exact Nat.le_refl _ | omega | (simp; done) | (simp; omega))) | ((with_reducible refine Below.setCell ?_ ?_ _); rotate_left; focus (first | exact Nat.le_refl _ | omega | (simp; done) | (simp; omega))) | (with_reducible refine Below.drew ?_) | (with_reducible refine below_drewN ?_ _) | ((with_reducible refine below_via (by assumption) ?_ ?_); focus (first | exact Nat.le_refl _ | omega | (simp; done) | (simp; omega)))))
  have HZ := Lib.hid (zcell_new w)
  generalize (w.alloc (.cells #[.int .i64 0, .int .i64 0, .int .i64 0, .string ⟨#[]⟩, .slice none 0 0] 32)) = W1 at hbA HZ ⊢
  refine (H26.out W1 hbA).mono ?_
  rintro e w1 ⟨A', c', rfl, hi, hb1⟩
  have hb1w : Below w.heap.size w w1 := keepS hb1 hbA
  have HZ1 := Lib.hid (HZ.out.below HZ.out.lt hb1)
  have HI := Lib.hid hi
  clear hi
  go_wp2_with fail
  refine (HF.out w1 A' c' hb1w HI.out).mono ?_
  rintro e w2 ⟨rfl, hb2⟩
  have hb2w : Below w.heap.size w w2 := keepS hb2 hb1w
  have HZ2 := Lib.hid (HZ1.out.below HZ1.out.lt hb2)
  have hw2 : w.heap.size < w2.heap.size := HZ2.out.lt
  go_wp2_with fail
  have HZ3 := Lib.hid (HZ2.out.below (w1 := w2.alloc (.cells #[.int .i64 1, .float .f64 fm, .string ⟨#[]⟩, .slice none 0 0] 27)) HZ2.out.lt (by repeat (first | (with_reducible exact Below.refl _ _) | (with_reducible assumption) | ((with_reducible refine Below.alloc ?_ ?_ _); rotate_left; focus (first | exact Nat.le_refl _ | omega | (simp; done) | (simp; omega))) | ((with_reducible refine Below.setCell ?_ ?_ _); rotate_left; focus (first | exact Nat.le_refl _ | omega | (simp; done) | (simp; omega))) | (with_reducible refine Below.drew ?_) | (with_reducible refine below_drewN ?_ _) | ((with_reducible refine below_via (by assumption) ?_ ?_); focus (first | exact Nat.le_refl _ | omega | (simp; done) | (simp; omega))))))
  refine (H36.out _).mono ?_
  rintro e w4 ⟨rfl, hb4⟩
  have hb4w : Below w.heap.size w w4 := keepS hb4 (hb2w.alloc hb2w.size _)
  obtain ⟨hzl, z0, z1, z2, z3, z4, hfr⟩ := HZ3.out.below HZ3.out.lt hb4
  go_wp2_with fail
  (refine bodyPost_ret (v := .agg #[.int .i64 1, .int .i64 (m : Int), .int .i64 1, .string ⟨#[]⟩, .slice none 0 0]) ?_ rfl ?_; (focus (first | (simp [results, Tryz.results19, go_sem, hc1, hz1]; done) | (simp [results, Tryz.results19, go_sem]; done) | (simp [results, Tryz.results19, go_sem, *]; done))); exact ret_mk (by repeat (first | (with_reducible exact Below.refl _ _) | (with_reducible assumption) | ((with_reducible refine Below.alloc ?_ ?_ _); rotate_left; focus (first | exact Nat.le_refl _ | omega | (simp; done) | (simp; omega))) | ((with_reducible refine Below.setCell ?_ ?_ _); rotate_left; focus (first | exact Nat.le_refl _ | omega | (simp; done) | (simp; omega))) | (with_reducible refine Below.drew ?_) | (with_reducible refine below_drewN ?_ _) | ((with_reducible refine below_via (by assumption) ?_ ?_); focus (first | exact Nat.le_refl _ | omega | (simp; done) | (simp; omega))))))
end Go.Proofs.YtkhgaenffnoimaaGreatDoor
