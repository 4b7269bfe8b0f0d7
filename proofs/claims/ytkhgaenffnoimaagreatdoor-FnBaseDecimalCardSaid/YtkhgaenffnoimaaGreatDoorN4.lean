/- BASE of the implementation. -/
import Derived.Test.YtkhgaenffnoimaaGreatDoorN3
import Derived.Test.YtkhgaenffnoimaaGreatDoorM7
set_option linter.unusedSimpArgs false
set_option linter.unusedVariables false
namespace Go.Proofs.YtkhgaenffnoimaaGreatDoor
open Go.RowKit FL
attribute [local go_sem] run_store_float as64
theorem conv_foi (T : TypeId) (hT : Tryz.prog.underlying T = some (.int .i64)) (n : Int) (h : n.natAbs < 100000000000000) (W : World) : (convert 24 T (.float FloatKind.f64 (floatOfInt FloatKind.f64 n))).run Tryz.prog W = .ok (.int .i64 n) W := by
  refine run_convert_float_int W 24 T FloatKind.f64 IntKind.i64 _ n (by kernel_rfl) hT ?_
  unfold floatToIntVal
  rw [foi_F16 n (by omega)]
  have := toInt_F16 n (by omega)
  rw [show FloatKind.f64.decode (F16 (16 * n)) = Ieee.double.read (F16 (16 * n)) from rfl, this]
  have h1 : IntKind.i64.min ≤ n := by
    show (-9223372036854775808 : Int) ≤ n
    omega
  have h2 : n ≤ IntKind.i64.max := by
    show n ≤ (9223372036854775807 : Int)
    omega
  exact if_pos ⟨h1, h2⟩
set_option maxRecDepth 100000 in
set_option maxHeartbeats 1000000 in
theorem c71N (b : Nat) (w : World) (h : FOK b) : Calls Tryz.prog 71 #[.agg #[.string ⟨#[]⟩, .float .f64 b, .string ⟨#[]⟩, .slice none 0 0, .slice none 0 0, .bool false, .string ⟨#[]⟩, .int .u8 1, .pointer none, .pointer none]] w (Ret w (.agg #[.string ⟨#[]⟩, .float .f64 b, .string ⟨#[]⟩, .slice none 0 0, .slice none 0 0, .bool false, .string ⟨#[]⟩, .int .u8 1, .pointer none, .pointer none])) := by
  go_enter Tryz.func71, Tryz.ntmps71
  go_wp2_with fail
  have hbA : Below w.heap.size w ((w.alloc (.cells #[.string ⟨#[]⟩, .float .f64 b, .string ⟨#[]⟩, .slice none 0 0, .slice none 0 0, .bool false, .string ⟨#[]⟩, .int .u8 1, .pointer none, .pointer none] 68)).alloc (.cells #[.string ⟨#[]⟩, .float .f64 0, .string ⟨#[]⟩, .slice none 0 0, .slice none 0 0, .bool false, .string ⟨#[]⟩, .int .u8 0, .pointer none, .pointer none] 68)) := (by repeat (first | (with_reducible exact Below.refl _ _) | (with_reducible assumption) | ((with_reducible refine Below.alloc ?_ ?_ _); rotate_left; focus (first | exact Nat.le_refl _ | omega | (simp; done) | (simp; omega))) | ((with_reducible refine Below.setCell ?_ ?_ _); rotate_left; focus (first | exact Nat.le_refl _ | omega | (simp; done) | (simp; omega))) | (with_reducible refine Below.drew ?_) | (with_reducible refine below_drewN ?_ _) | ((with_reducible refine below_via (by assumption) ?_ ?_); focus (first | exact Nat.le_refl _ | omega | (simp; done) | (simp; omega)))))
  have hsA : ((w.alloc (.cells #[.string ⟨#[]⟩, .float .f64 b, .string ⟨#[]⟩, .slice none 0 0, .slice none 0 0, .bool false, .string ⟨#[]⟩, .int .u8 1, .pointer none, .pointer none] 68)).alloc (.cells #[.string ⟨#[]⟩, .float .f64 0, .string ⟨#[]⟩, .slice none 0 0, .slice none 0 0, .bool false, .string ⟨#[]⟩, .int .u8 0, .pointer none, .pointer none] 68)).heap.size = w.heap.size + 2 := by simp
  have HZ : Hid (Z64 ((w.alloc (.cells #[.string ⟨#[]⟩, .float .f64 b, .string ⟨#[]⟩, .slice none 0 0, .slice none 0 0, .bool false, .string ⟨#[]⟩, .int .u8 1, .pointer none, .pointer none] 68)).alloc (.cells #[.string ⟨#[]⟩, .float .f64 0, .string ⟨#[]⟩, .slice none 0 0, .slice none 0 0, .bool false, .string ⟨#[]⟩, .int .u8 0, .pointer none, .pointer none] 68)) (w.heap.size + 1)) := Lib.hid (by simpa using z64_new (w.alloc (.cells #[.string ⟨#[]⟩, .float .f64 b, .string ⟨#[]⟩, .slice none 0 0, .slice none 0 0, .bool false, .string ⟨#[]⟩, .int .u8 1, .pointer none, .pointer none] 68)) 68)
  generalize ((w.alloc (.cells #[.string ⟨#[]⟩, .float .f64 b, .string ⟨#[]⟩, .slice none 0 0, .slice none 0 0, .bool false, .string ⟨#[]⟩, .int .u8 1, .pointer none, .pointer none] 68)).alloc (.cells #[.string ⟨#[]⟩, .float .f64 0, .string ⟨#[]⟩, .slice none 0 0, .slice none 0 0, .bool false, .string ⟨#[]⟩, .int .u8 0, .pointer none, .pointer none] 68)) = W1 at hbA hsA HZ ⊢
  refine (c63' b W1 h).mono ?_
  rintro e w1 ⟨rfl, hb1⟩
  obtain ⟨zl, z0, z1, z2, z3, z4, z5, z6, z7, z8, z9, zf⟩ := HZ.out.below hb1
  have hbf : Below w.heap.size w w1 := hbA.trans (hb1.mono (by omega))
  go_wp2_with fail
  (refine bodyPost_ret (v := .agg #[.string ⟨#[]⟩, .float .f64 b, .string ⟨#[]⟩, .slice none 0 0, .slice none 0 0, .bool false, .string ⟨#[]⟩, .int .u8 1, .pointer none, .pointer none]) ?_ rfl ?_; (focus (first | (simp [results, Tryz.results71, go_sem, hc1, hz1]; done) | (simp [results, Tryz.results71, go_sem]; done) | (simp [results, Tryz.results71, go_sem, *]; done))); exact ret_mk (by repeat (first | (with_reducible exact Below.refl _ _) | (with_reducible assumption) | ((with_reducible refine Below.alloc ?_ ?_ _); rotate_left; focus (first | exact Nat.le_refl _ | omega | (simp; done) | (simp; omega))) | ((with_reducible refine Below.setCell ?_ ?_ _); rotate_left; focus (first | exact Nat.le_refl _ | omega | (simp; done) | (simp; omega))) | (with_reducible refine Below.drew ?_) | (with_reducible refine below_drewN ?_ _) | ((with_reducible refine below_via (by assumption) ?_ ?_); focus (first | exact Nat.le_refl _ | omega | (simp; done) | (simp; omega))))))
theorem under2 : Tryz.prog.underlying 2 = some (.int .i64) := by kernel_rfl
set_option maxRecDepth 100000 in
set_option maxHeartbeats 1000000 in
theorem c53 (b n L x y : Nat) (p : Value) (w : World) (h0 : 2 ≤ b) (h1 : b ≤ 36) (hn : n ≤ 99999999999) (hT : Tab w) (hT4 : 15 ≤ w.heap.size)
    (hd : DL w L [x, y] [.iface 68 (fN (floatOfInt FloatKind.f64 (n : Int))), .iface 68 (fN (floatOfInt FloatKind.f64 (b : Int)))]) :
    Calls Tryz.prog 53 #[p, .pointer (some ⟨L, 0, none⟩)] w (Ret w (fS (upT b n))) := by
  have HD := Lib.hid hd
  have H71n : Hid (∀ W, Calls Tryz.prog 71 #[.agg #[.string ⟨#[]⟩, .float .f64 (floatOfInt FloatKind.f64 (n : Int)), .string ⟨#[]⟩, .slice none 0 0, .slice none 0 0, .bool false, .string ⟨#[]⟩, .int .u8 1, .pointer none, .pointer none]] W (Ret W (.agg #[.string ⟨#[]⟩, .float .f64 (floatOfInt FloatKind.f64 (n : Int)), .string ⟨#[]⟩, .slice none 0 0, .slice none 0 0, .bool false, .string ⟨#[]⟩, .int .u8 1, .pointer none, .pointer none]))) := Lib.hid fun W => c71N _ W (foi_ok _ (by omega))
  have H71b : Hid (∀ W, Calls Tryz.prog 71 #[.agg #[.string ⟨#[]⟩, .float .f64 (floatOfInt FloatKind.f64 (b : Int)), .string ⟨#[]⟩, .slice none 0 0, .slice none 0 0, .bool false, .string ⟨#[]⟩, .int .u8 1, .pointer none, .pointer none]] W (Ret W (.agg #[.string ⟨#[]⟩, .float .f64 (floatOfInt FloatKind.f64 (b : Int)), .string ⟨#[]⟩, .slice none 0 0, .slice none 0 0, .bool false, .string ⟨#[]⟩, .int .u8 1, .pointer none, .pointer none]))) := Lib.hid fun W => c71N _ W (foi_ok _ (by omega))
  have hcn := conv_foi 2 under2 (n : Int) (by omega)
  have hcb := conv_foi 3 Tryz.underlying3 (b : Int) (by omega)
  obtain ⟨hx1, -, -, -, hx5, -⟩ := hd.el 0 x rfl
  obtain ⟨hy1, -, -, -, hy5, -⟩ := hd.el 1 y rfl
  have ex : w.cell? ⟨x, 3, none⟩ = some (.iface 68 (.agg #[.string ⟨#[]⟩, .float .f64 (floatOfInt FloatKind.f64 (n : Int)), .string ⟨#[]⟩, .slice none 0 0, .slice none 0 0, .bool false, .string ⟨#[]⟩, .int .u8 1, .pointer none, .pointer none])) := hx5
  have ey : w.cell? ⟨y, 3, none⟩ = some (.iface 68 (.agg #[.string ⟨#[]⟩, .float .f64 (floatOfInt FloatKind.f64 (b : Int)), .string ⟨#[]⟩, .slice none 0 0, .slice none 0 0, .bool false, .string ⟨#[]⟩, .int .u8 1, .pointer none, .pointer none])) := hy5
  have HT := Lib.hid hT
  clear hd hx5 hy5 hT
  generalize floatOfInt FloatKind.f64 (n : Int) = fn at *
  generalize floatOfInt FloatKind.f64 (b : Int) = fb at *
  go_enter Tryz.func53, Tryz.ntmps53
  go_wp2_with fail
  have hbA : Below w.heap.size w (w.alloc (.cells #[.string ⟨#[]⟩, .float .f64 0, .string ⟨#[]⟩, .slice none 0 0, .slice none 0 0, .bool false, .string ⟨#[]⟩, .int .u8 0, .pointer none, .pointer none] 68)) := (by repeat (first | (with_reducible exact Below.refl _ _) | (with_reducible assumption) | ((with_reducible refine Below.alloc ?_ ?_ _); rotate_left; focus (first | exact Nat.le_refl _ | omega | (simp; done) | (simp; omega))) | ((with_reducible refine Below.setCell ?_ ?_ _); rotate_left; focus (first | exact Nat.le_refl _ | omega | (simp; done) | (simp; omega))) | (with_reducible refine Below.drew ?_) | (with_reducible refine below_drewN ?_ _) | ((with_reducible refine below_via (by assumption) ?_ ?_); focus (first | exact Nat.le_refl _ | omega | (simp; done) | (simp; omega)))))
  have HZ := Lib.hid (z64_new w 68)
  generalize (w.alloc (.cells #[.string ⟨#[]⟩, .float .f64 0, .string ⟨#[]⟩, .slice none 0 0, .slice none 0 0, .bool false, .string ⟨#[]⟩, .int .u8 0, .pointer none, .pointer none] 68)) = W1 at hbA HZ ⊢
  refine (c70 L [x, y] _ W1 (HD.out.below hbA)).mono ?_
  rintro e w1 ⟨rfl, rfl⟩
  go_wp2_with fail
  refine (c70 L [x, y] _ w1 (HD.out.below hbA)).mono ?_
  rintro e w2 ⟨rfl, rfl⟩
  go_wp2_with fail
  refine (c59 L [x, y] _ w2 (HD.out.below hbA) (by simp)).mono ?_
  rintro e w3 ⟨rfl, rfl⟩
  have ex3 := (hbA.cell (p := ⟨x, 3, none⟩) hx1).trans ex
  have hx3 : x < w3.heap.size := Nat.lt_of_lt_of_le hx1 hbA.size
  clear ex
  go_wp2_with fail
  refine (H71n.out w3).mono ?_
  rintro e w4 ⟨rfl, hb4⟩
  have hbw4 : Below w.heap.size w w4 := keepS hb4 hbA
  have HZ4 := Lib.hid (HZ.out.below hb4)
  clear ex3 hb4
  go_wp2_with fail
  have hba : Below w4.heap.size w4 (w4.alloc (.cells #[.string ⟨#[]⟩, .float .f64 fn, .string ⟨#[]⟩, .slice none 0 0, .slice none 0 0, .bool false, .string ⟨#[]⟩, .int .u8 1, .pointer none, .pointer none] 68)) := (by repeat (first | (with_reducible exact Below.refl _ _) | (with_reducible assumption) | ((with_reducible refine Below.alloc ?_ ?_ _); rotate_left; focus (first | exact Nat.le_refl _ | omega | (simp; done) | (simp; omega))) | ((with_reducible refine Below.setCell ?_ ?_ _); rotate_left; focus (first | exact Nat.le_refl _ | omega | (simp; done) | (simp; omega))) | (with_reducible refine Below.drew ?_) | (with_reducible refine below_drewN ?_ _) | ((with_reducible refine below_via (by assumption) ?_ ?_); focus (first | exact Nat.le_refl _ | omega | (simp; done) | (simp; omega)))))
  have hf1 : (w4.alloc (.cells #[.string ⟨#[]⟩, .float .f64 fn, .string ⟨#[]⟩, .slice none 0 0, .slice none 0 0, .bool false, .string ⟨#[]⟩, .int .u8 1, .pointer none, .pointer none] 68)).cell? ⟨w4.heap.size, 1, none⟩ = some (.float .f64 fn) := by simp [go_sem]
  have hls : w4.heap.size < (w4.alloc (.cells #[.string ⟨#[]⟩, .float .f64 fn, .string ⟨#[]⟩, .slice none 0 0, .slice none 0 0, .bool false, .string ⟨#[]⟩, .int .u8 1, .pointer none, .pointer none] 68)).heap.size := by simp
  generalize (w4.alloc (.cells #[.string ⟨#[]⟩, .float .f64 fn, .string ⟨#[]⟩, .slice none 0 0, .slice none 0 0, .bool false, .string ⟨#[]⟩, .int .u8 1, .pointer none, .pointer none] 68)) = W5 at hba hf1 hls ⊢
  have hbw5 : Below w.heap.size w W5 := keepS hba hbw4
  have HZ5 := Lib.hid (HZ4.out.below hba)
  refine (c59 L [x, y] _ W5 (HD.out.below hbw5) (by simp)).mono ?_
  rintro e w5 ⟨rfl, rfl⟩
  go_wp2_with fail
  refine (c60 L [x, y] _ 0 x w5 (HD.out.below hbw5) rfl).mono ?_
  rintro e w6 ⟨rfl, rfl⟩
  rw [elP_some (i := 0 + 1) (b := y) rfl]
  have ey6 := (hbw5.cell (p := ⟨y, 3, none⟩) hy1).trans ey
  have hy6 : y < w6.heap.size := Nat.lt_of_lt_of_le hy1 hbw5.size
  clear ey
  go_wp2_with fail
  refine (H71b.out w6).mono ?_
  rintro e w7 ⟨rfl, hb7⟩
  have hbw7 : Below w.heap.size w w7 := keepS hb7 hbw5
  have HZ7 := Lib.hid (HZ5.out.below hb7)
  have hf7 := (hb7.cell (p := ⟨w4.heap.size, 1, none⟩) hls).trans hf1
  have hl7 : w4.heap.size < w7.heap.size := Nat.lt_of_lt_of_le hls hb7.size
  clear ey6 hb7 hf1
  go_wp2_with fail
  have hba7 : Below w7.heap.size w7 (w7.alloc (.cells #[.string ⟨#[]⟩, .float .f64 fb, .string ⟨#[]⟩, .slice none 0 0, .slice none 0 0, .bool false, .string ⟨#[]⟩, .int .u8 1, .pointer none, .pointer none] 68)) := (by repeat (first | (with_reducible exact Below.refl _ _) | (with_reducible assumption) | ((with_reducible refine Below.alloc ?_ ?_ _); rotate_left; focus (first | exact Nat.le_refl _ | omega | (simp; done) | (simp; omega))) | ((with_reducible refine Below.setCell ?_ ?_ _); rotate_left; focus (first | exact Nat.le_refl _ | omega | (simp; done) | (simp; omega))) | (with_reducible refine Below.drew ?_) | (with_reducible refine below_drewN ?_ _) | ((with_reducible refine below_via (by assumption) ?_ ?_); focus (first | exact Nat.le_refl _ | omega | (simp; done) | (simp; omega)))))
  have hg1 : (w7.alloc (.cells #[.string ⟨#[]⟩, .float .f64 fb, .string ⟨#[]⟩, .slice none 0 0, .slice none 0 0, .bool false, .string ⟨#[]⟩, .int .u8 1, .pointer none, .pointer none] 68)).cell? ⟨w7.heap.size, 1, none⟩ = some (.float .f64 fb) := by simp [go_sem]
  have hls8 : w7.heap.size < (w7.alloc (.cells #[.string ⟨#[]⟩, .float .f64 fb, .string ⟨#[]⟩, .slice none 0 0, .slice none 0 0, .bool false, .string ⟨#[]⟩, .int .u8 1, .pointer none, .pointer none] 68)).heap.size := by simp
  have hf8 := (hba7.cell (p := ⟨w4.heap.size, 1, none⟩) hl7).trans hf7
  generalize (w7.alloc (.cells #[.string ⟨#[]⟩, .float .f64 fb, .string ⟨#[]⟩, .slice none 0 0, .slice none 0 0, .bool false, .string ⟨#[]⟩, .int .u8 1, .pointer none, .pointer none] 68)) = W8 at hba7 hg1 hls8 hf8 ⊢
  have hbw8 : Below w.heap.size w W8 := keepS hba7 hbw7
  have HZ8 := Lib.hid (HZ7.out.below hba7)
  have HT8 := Lib.hid (HT.out.below hbw8 hT4)
  have H79 := Lib.hid (fun W (h : Tab W) => c79 b n W h0 h1 hn h)
  have H82 := Lib.hid (fun W => c82 b n W h0 h1)
  have HS : Hid ((upT b n).size ≤ 40) := Lib.hid (upT_size b n)
  generalize lowT b n = lo at H79 H82
  refine (c70 L [x, y] _ W8 (HD.out.below hbw8)).mono ?_
  rintro e w9 ⟨rfl, rfl⟩
  go_wp2_with fail
  refine (H79.out w9 HT8.out).mono ?_
  rintro e w10 ⟨rfl, hb10⟩
  have hbw10 : Below w.heap.size w w10 := keepS hb10 hbw8
  have HZ10 := Lib.hid (HZ8.out.below hb10)
  go_wp2_with fail
  refine (H82.out w10).mono ?_
  rintro e w11 ⟨rfl, hb11⟩
  have hbw11 : Below w.heap.size w w11 := keepS hb11 hbw10
  have HZ11 := Lib.hid (HZ10.out.below hb11)
  go_wp2_with fail
  refine (c81u (upT b n) w11).mono ?_
  rintro e w12 ⟨rfl, hb12⟩
  have hbw12 : Below w.heap.size w w12 := keepS hb12 hbw11
  obtain ⟨zl, z0, z1, z2, z3, z4, z5, z6, z7, z8, z9, zf⟩ := HZ11.out.below hb12
  go_wp2_with fail
  (refine bodyPost_ret (v := .agg #[.string ⟨#[]⟩, .float .f64 0, .string (upT b n), .slice none 0 0, .slice none 0 0, .bool false, .string ⟨#[]⟩, .int .u8 2, .pointer none, .pointer none]) ?_ rfl ?_; (focus (first | (simp [results, Tryz.results53, go_sem, hc1, hz1]; done) | (simp [results, Tryz.results53, go_sem]; done) | (simp [results, Tryz.results53, go_sem, *]; done))); exact ret_mk (by repeat (first | (with_reducible exact Below.refl _ _) | (with_reducible assumption) | ((with_reducible refine Below.alloc ?_ ?_ _); rotate_left; focus (first | exact Nat.le_refl _ | omega | (simp; done) | (simp; omega))) | ((with_reducible refine Below.setCell ?_ ?_ _); rotate_left; focus (first | exact Nat.le_refl _ | omega | (simp; done) | (simp; omega))) | (with_reducible refine Below.drew ?_) | (with_reducible refine below_drewN ?_ _) | ((with_reducible refine below_via (by assumption) ?_ ?_); focus (first | exact Nat.le_refl _ | omega | (simp; done) | (simp; omega))))))
end Go.Proofs.YtkhgaenffnoimaaGreatDoor
