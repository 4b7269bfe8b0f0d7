/- DECIMAL of the implementation. -/
import Derived.Test.YtkhgaenffnoimaaGreatDoorN6
set_option linter.unusedSimpArgs false
set_option linter.unusedVariables false
namespace Go.Proofs.YtkhgaenffnoimaaGreatDoor
open Go.RowKit FL
attribute [local go_sem] run_store_float as64
theorem hp1 (s : ByteArray) (h : Lib.hasPrefix s.data.toList [48, 120] = false) (w : World) : Calls Tryz.prog 83 #[.string s, .string ⟨#[48, 120]⟩] w (fun e w' => e = .returned (.bool false) ∧ w' = w) := by
  have := Tryz.strings_HasPrefix s ⟨#[48, 120]⟩ w
  rw [show (⟨#[48, 120]⟩ : ByteArray).data.toList = [48, 120] from rfl, h] at this
  exact this
theorem hp2 (s : ByteArray) (h : Lib.hasPrefix s.data.toList [48, 88] = false) (w : World) : Calls Tryz.prog 83 #[.string s, .string ⟨#[48, 88]⟩] w (fun e w' => e = .returned (.bool false) ∧ w' = w) := by
  have := Tryz.strings_HasPrefix s ⟨#[48, 88]⟩ w
  rw [show (⟨#[48, 88]⟩ : ByteArray).data.toList = [48, 88] from rfl, h] at this
  exact this
set_option maxRecDepth 100000 in
set_option maxHeartbeats 1000000 in
theorem c54 (b n L x y : Nat) (s : ByteArray) (p : Value) (w : World) (h0 : 2 ≤ b) (h1 : b ≤ 36) (hn : n ≤ 99999999999) (hu : UT b n s)
    (hd : DL w L [x, y] [.iface 68 (fS s), .iface 68 (fN (floatOfInt FloatKind.f64 (b : Int)))]) :
    Calls Tryz.prog 54 #[p, .pointer (some ⟨L, 0, none⟩)] w (Ret w (fN (floatOfInt FloatKind.f64 (n : Int)))) := by
  have HD := Lib.hid hd
  have H71b : Hid (∀ W, Calls Tryz.prog 71 #[.agg #[.string ⟨#[]⟩, .float .f64 (floatOfInt FloatKind.f64 (b : Int)), .string ⟨#[]⟩, .slice none 0 0, .slice none 0 0, .bool false, .string ⟨#[]⟩, .int .u8 1, .pointer none, .pointer none]] W (Ret W (.agg #[.string ⟨#[]⟩, .float .f64 (floatOfInt FloatKind.f64 (b : Int)), .string ⟨#[]⟩, .slice none 0 0, .slice none 0 0, .bool false, .string ⟨#[]⟩, .int .u8 1, .pointer none, .pointer none]))) := Lib.hid fun W => c71N _ W (foi_ok _ (by omega))
  have H63 : Hid (∀ W, Calls Tryz.prog 63 #[.float .f64 (floatOfInt FloatKind.f64 (n : Int))] W (Ret W (fN (floatOfInt FloatKind.f64 (n : Int))))) := Lib.hid fun W => c63' _ W (foi_ok _ (by omega))
  have H84 : Hid (∀ W, Calls Tryz.prog 84 #[.string s, .int .i64 b, .int .i64 64] W (Ret W (.tuple #[.int .i64 n, .nilIface]))) := Lib.hid fun W => c84 b n s W hn hu
  have H78 : Hid (∀ W, Calls Tryz.prog 78 #[.agg #[.string ⟨#[]⟩, .float .f64 0, .string s, .slice none 0 0, .slice none 0 0, .bool false, .string ⟨#[]⟩, .int .u8 2, .pointer none, .pointer none]] W (Ret W (.string s))) := Lib.hid fun W => c78_S s W
  have HPx := Lib.hid (fun W => hp1 s hu.px W)
  have HPX := Lib.hid (fun W => hp2 s hu.pX W)
  have hcb := conv_foi 3 Tryz.underlying3 (b : Int) (by omega)
  obtain ⟨hx1, -, -, -, hx5, -⟩ := hd.el 0 x rfl
  obtain ⟨hy1, -, -, -, hy5, -⟩ := hd.el 1 y rfl
  have ex : w.cell? ⟨x, 3, none⟩ = some (.iface 68 (.agg #[.string ⟨#[]⟩, .float .f64 0, .string s, .slice none 0 0, .slice none 0 0, .bool false, .string ⟨#[]⟩, .int .u8 2, .pointer none, .pointer none])) := hx5
  have ey : w.cell? ⟨y, 3, none⟩ = some (.iface 68 (.agg #[.string ⟨#[]⟩, .float .f64 (floatOfInt FloatKind.f64 (b : Int)), .string ⟨#[]⟩, .slice none 0 0, .slice none 0 0, .bool false, .string ⟨#[]⟩, .int .u8 1, .pointer none, .pointer none])) := hy5
  clear hd hx5 hy5 hu h0 h1 hn
  generalize floatOfInt FloatKind.f64 (b : Int) = fb at *
  go_enter Tryz.func54, Tryz.ntmps54
  go_wp2_with fail
  have hbA : Below w.heap.size w (w.alloc (.cells #[.string ⟨#[]⟩, .float .f64 0, .string ⟨#[]⟩, .slice none 0 0, .slice none 0 0, .bool false, .string ⟨#[]⟩, .int .u8 0, .pointer none, .pointer none] 68)) := (by repeat (first | (with_reducible exact Below.refl _ _) | (with_reducible assumption) | ((with_reducible refine Below.alloc ?_ ?_ _); rotate_left; focus (first | exact Nat.le_refl _ | omega | (simp; done) | (simp; omega))) | ((with_reducible refine Below.setCell ?_ ?_ _); rotate_left; focus (first | exact Nat.le_refl _ | omega | (simp; done) | (simp; omega))) | (with_reducible refine Below.drew ?_) | (with_reducible refine below_drewN ?_ _) | ((with_reducible refine below_via (by assumption) ?_ ?_); focus (first | exact Nat.le_refl _ | omega | (simp; done) | (simp; omega)))))
  have HZ := Lib.hid (z64_new w 68)
  generalize (w.alloc (.cells #[.string ⟨#[]⟩, .float .f64 0, .string ⟨#[]⟩, .slice none 0 0, .slice none 0 0, .bool false, .string ⟨#[]⟩, .int .u8 0, .pointer none, .pointer none] 68)) = W1 at hbA HZ ⊢
  refine (c70 L [x, y] _ W1 (HD.out.below hbA)).mono ?_
  rintro e w1 ⟨rfl, rfl⟩
  go_wp2_with fail
  refine (c59 L [x, y] _ w1 (HD.out.below hbA) (by simp)).mono ?_
  rintro e w3 ⟨rfl, rfl⟩
  have ex3 := (hbA.cell (p := ⟨x, 3, none⟩) hx1).trans ex
  have hx3 : x < w3.heap.size := Nat.lt_of_lt_of_le hx1 hbA.size
  clear ex
  go_wp2_with fail
  refine (H78.out w3).mono ?_
  rintro e w4 ⟨rfl, hb4⟩
  have hbw4 : Below w.heap.size w w4 := keepS hb4 hbA
  have HZ4 := Lib.hid (HZ.out.below hb4)
  clear ex3 hb4
  go_wp2_with fail
  refine (c77 L [x, y] _ w4 (HD.out.below hbw4) (by simp)).mono ?_
  rintro e w5 ⟨rfl, rfl⟩
  rw [show lastOf L [x, y] = y from rfl]
  have ey6 := (hbw4.cell (p := ⟨y, 3, none⟩) hy1).trans ey
  have hy6 : y < w5.heap.size := Nat.lt_of_lt_of_le hy1 hbw4.size
  clear ey
  go_wp2_with fail
  refine (H71b.out w5).mono ?_
  rintro e w7 ⟨rfl, hb7⟩
  have hbw7 : Below w.heap.size w w7 := keepS hb7 hbw4
  have HZ7 := Lib.hid (HZ4.out.below hb7)
  clear ey6 hb7
  by_cases h2 : 2 < s.size
  · go_wp2_with fail
    refine (HPx.out _).mono ?_
    rintro e w8 ⟨rfl, rfl⟩
    go_wp2_with fail
    refine (HPX.out _).mono ?_
    rintro e w8 ⟨rfl, rfl⟩
    go_wp2_with fail
    refine (H84.out _).mono ?_
    rintro e w8 ⟨rfl, hb8⟩
    have hbw8 : Below w.heap.size w w8 := keepS hb8 (hbw7.alloc hbw7.size _)
    have HZ8 := Lib.hid ((HZ7.out.below (w1 := w7.alloc (.cells #[.string ⟨#[]⟩, .float .f64 fb, .string ⟨#[]⟩, .slice none 0 0, .slice none 0 0, .bool false, .string ⟨#[]⟩, .int .u8 1, .pointer none, .pointer none] 68)) (by repeat (first | (with_reducible exact Below.refl _ _) | (with_reducible assumption) | ((with_reducible refine Below.alloc ?_ ?_ _); rotate_left; focus (first | exact Nat.le_refl _ | omega | (simp; done) | (simp; omega))) | ((with_reducible refine Below.setCell ?_ ?_ _); rotate_left; focus (first | exact Nat.le_refl _ | omega | (simp; done) | (simp; omega))) | (with_reducible refine Below.drew ?_) | (with_reducible refine below_drewN ?_ _) | ((with_reducible refine below_via (by assumption) ?_ ?_); focus (first | exact Nat.le_refl _ | omega | (simp; done) | (simp; omega)))))).below hb8)
    clear hb8
    go_wp2_with fail
    refine (H63.out w8).mono ?_
    rintro e w9 ⟨rfl, hb9⟩
    have hbw9 : Below w.heap.size w w9 := keepS hb9 hbw8
    obtain ⟨zl, z0, z1, z2, z3, z4, z5, z6, z7, z8, z9, zf⟩ := HZ8.out.below hb9
    unfold fN
    go_wp2_with fail
    (refine bodyPost_ret (v := .agg #[.string ⟨#[]⟩, .float .f64 (floatOfInt FloatKind.f64 (n : Int)), .string ⟨#[]⟩, .slice none 0 0, .slice none 0 0, .bool false, .string ⟨#[]⟩, .int .u8 1, .pointer none, .pointer none]) ?_ rfl ?_; (focus (first | (simp [results, Tryz.results54, go_sem, hc1, hz1]; done) | (simp [results, Tryz.results54, go_sem]; done) | (simp [results, Tryz.results54, go_sem, *]; done))); exact ret_mk (by repeat (first | (with_reducible exact Below.refl _ _) | (with_reducible assumption) | ((with_reducible refine Below.alloc ?_ ?_ _); rotate_left; focus (first | exact Nat.le_refl _ | omega | (simp; done) | (simp; omega))) | ((with_reducible refine Below.setCell ?_ ?_ _); rotate_left; focus (first | exact Nat.le_refl _ | omega | (simp; done) | (simp; omega))) | (with_reducible refine Below.drew ?_) | (with_reducible refine below_drewN ?_ _) | ((with_reducible refine below_via (by assumption) ?_ ?_); focus (first | exact Nat.le_refl _ | omega | (simp; done) | (simp; omega))))))
  · go_wp2_with fail
    refine (H84.out _).mono ?_
    rintro e w8 ⟨rfl, hb8⟩
    have hbw8 : Below w.heap.size w w8 := keepS hb8 (hbw7.alloc hbw7.size _)
    have HZ8 := Lib.hid ((HZ7.out.below (w1 := w7.alloc (.cells #[.string ⟨#[]⟩, .float .f64 fb, .string ⟨#[]⟩, .slice none 0 0, .slice none 0 0, .bool false, .string ⟨#[]⟩, .int .u8 1, .pointer none, .pointer none] 68)) (by repeat (first | (with_reducible exact Below.refl _ _) | (with_reducible assumption) | ((with_reducible refine Below.alloc ?_ ?_ _); rotate_left; focus (first | exact Nat.le_refl _ | omega | (simp; done) | (simp; omega))) | ((with_reducible refine Below.setCell ?_ ?_ _); rotate_left; focus (first | exact Nat.le_refl _ | omega | (simp; done) | (simp; omega))) | (with_reducible refine Below.drew ?_) | (with_reducible refine below_drewN ?_ _) | ((with_reducible refine below_via (by assumption) ?_ ?_); focus (first | exact Nat.le_refl _ | omega | (simp; done) | (simp; omega)))))).below hb8)
    clear hb8
    go_wp2_with fail
    refine (H63.out w8).mono ?_
    rintro e w9 ⟨rfl, hb9⟩
    have hbw9 : Below w.heap.size w w9 := keepS hb9 hbw8
    obtain ⟨zl, z0, z1, z2, z3, z4, z5, z6, z7, z8, z9, zf⟩ := HZ8.out.below hb9
    unfold fN
    go_wp2_with fail
    (refine bodyPost_ret (v := .agg #[.string ⟨#[]⟩, .float .f64 (floatOfInt FloatKind.f64 (n : Int)), .string ⟨#[]⟩, .slice none 0 0, .slice none 0 0, .bool false, .string ⟨#[]⟩, .int .u8 1, .pointer none, .pointer none]) ?_ rfl ?_; (focus (first | (simp [results, Tryz.results54, go_sem, hc1, hz1]; done) | (simp [results, Tryz.results54, go_sem]; done) | (simp [results, Tryz.results54, go_sem, *]; done))); exact ret_mk (by repeat (first | (with_reducible exact Below.refl _ _) | (with_reducible assumption) | ((with_reducible refine Below.alloc ?_ ?_ _); rotate_left; focus (first | exact Nat.le_refl _ | omega | (simp; done) | (simp; omega))) | ((with_reducible refine Below.setCell ?_ ?_ _); rotate_left; focus (first | exact Nat.le_refl _ | omega | (simp; done) | (simp; omega))) | (with_reducible refine Below.drew ?_) | (with_reducible refine below_drewN ?_ _) | ((with_reducible refine below_via (by assumption) ?_ ?_); focus (first | exact Nat.le_refl _ | omega | (simp; done) | (simp; omega))))))
end Go.Proofs.YtkhgaenffnoimaaGreatDoor
