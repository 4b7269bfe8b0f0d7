/- The law FnDecBase. -/
import Derived.Test.YtkhgaenffnoimaaGreatDoorNF
set_option linter.unusedSimpArgs false
set_option linter.unusedVariables false
namespace Go.Proofs.YtkhgaenffnoimaaGreatDoor
open Go.RowKit FL
attribute [local go_sem] run_store_float as64
theorem vrow_one (w : World) (x : V) : VRow (w.alloc (.cells #[.int .i64 x.k, .int .i64 x.n, .int .i64 x.d, .string x.t, .slice none 0 0] 32)) (some ⟨w.heap.size, 0, none⟩) [x] := by
  refine .inr ⟨w.heap.size, rfl, by simp, fun j v hj => ?_⟩
  match j, hj with
  | 0, hj => cases hj; exact ⟨by simp [go_sem], by simp [go_sem], by simp [go_sem], by simp [go_sem], by simp [go_sem]⟩
/-- Block g holds a text of the reference. -/
structure TC (w : World) (g : Nat) (t : ByteArray) : Prop where
  lt : g < w.heap.size
  c0 : w.cell? ⟨g, 0, none⟩ = some (.int .i64 2)
  c1 : w.cell? ⟨g, 1, none⟩ = some (.int .i64 0)
  c2 : w.cell? ⟨g, 2, none⟩ = some (.int .i64 0)
  c3 : w.cell? ⟨g, 3, none⟩ = some (.string t)
  c4 : w.cell? ⟨g, 4, none⟩ = some (.slice none 0 0)
theorem TC.below {w w1 : World} {g : Nat} {t : ByteArray} (h : TC w g t) (hb : Below w.heap.size w w1) : TC w1 g t :=
  ⟨Nat.lt_of_lt_of_le h.lt hb.size, (hb.cell (p := ⟨g, _, none⟩) h.lt).trans h.c0, (hb.cell (p := ⟨g, _, none⟩) h.lt).trans h.c1, (hb.cell (p := ⟨g, _, none⟩) h.lt).trans h.c2, (hb.cell (p := ⟨g, _, none⟩) h.lt).trans h.c3, (hb.cell (p := ⟨g, _, none⟩) h.lt).trans h.c4⟩
theorem tc_new (w : World) (t : ByteArray) : TC (w.alloc (.cells #[.int .i64 2, .int .i64 0, .int .i64 0, .string t, .slice none 0 0] 32)) w.heap.size t :=
  ⟨by simp, by simp [go_sem], by simp [go_sem], by simp [go_sem], by simp [go_sem], by simp [go_sem]⟩
set_option maxRecDepth 100000 in
set_option maxHeartbeats 4000000 in
theorem c6 (n : Int) (w : World) (hn0 : -9223372036854775808 ≤ n) (hn1 : n ≤ 9223372036854775807) (hT : Tab w) (hT4 : 15 ≤ w.heap.size) :
    Calls Tryz.prog 6 #[.int .i64 n] w (Ret w (.bool true)) := by
  by_cases hin : 0 ≤ n ∧ n ≤ 511
  · obtain ⟨hi0, hi1⟩ := hin
    obtain ⟨N, rfl⟩ : ∃ N : Nat, n = N := ⟨n.toNat, by omega⟩
    have hN : N ≤ 511 := by omega
    have H18n := Lib.hid (fun W => c18 (N : Int) W (by omega) (by omega))
    have HT := Lib.hid (fun (W : World) (hW : Below w.heap.size w W) => And.intro (hT.below hW hT4) (Nat.le_trans hT4 hW.size))
    have H23 := Lib.hid (fun W g c (h : Tab W ∧ 15 ≤ W.heap.size) hx => said23 N g c W hN h.1 h.2 hx)
    have H24 := Lib.hid (fun W g c (h : Tab W ∧ 15 ≤ W.heap.size) hx => said24 N g c W hN h.1 h.2 hx)
    have H25 := Lib.hid (fun W g c (h : Tab W ∧ 15 ≤ W.heap.size) hx => said25 N g c W hN h.1 h.2 hx)
    have HS2 := Lib.hid (fun W g c (h : Tab W ∧ 15 ≤ W.heap.size) hx => saidB 2 N g c W (by decide) (by decide) (by omega) h.1 h.2 hx)
    have HS8 := Lib.hid (fun W g c (h : Tab W ∧ 15 ≤ W.heap.size) hx => saidB 8 N g c W (by decide) (by decide) (by omega) h.1 h.2 hx)
    have HS16 := Lib.hid (fun W g c (h : Tab W ∧ 15 ≤ W.heap.size) hx => saidB 16 N g c W (by decide) (by decide) (by omega) h.1 h.2 hx)
    clear hT hn0 hn1 hN
    go_enter Tryz.func6, Tryz.ntmps6
    go_wp2_with fail
    refine (H18n.out w).mono ?_
    rintro e w1 ⟨rfl, hb1⟩
    go_wp2_with fail
    have hbA : Below w.heap.size w (w1.alloc (.cells #[.int .i64 1, .int .i64 N, .int .i64 1, .string ⟨#[]⟩, .slice none 0 0] 32)) := hb1.alloc hb1.size _
    have hx1 := vrow_one w1 (vN (N : Int))
    have hx1' : VRow (w1.alloc (.cells #[.int .i64 1, .int .i64 N, .int .i64 1, .string ⟨#[]⟩, .slice none 0 0] 32)) (some ⟨w1.heap.size, 0, none⟩) [vN (N : Int)] := hx1
    have HX1 := Lib.hid hx1'
    clear hx1 hx1' hb1
    generalize (w1.alloc (.cells #[.int .i64 1, .int .i64 N, .int .i64 1, .string ⟨#[]⟩, .slice none 0 0] 32)) = W1 at hbA HX1 ⊢
    refine (H23.out W1 _ _ (HT.out W1 hbA) HX1.out).mono ?_
    rintro e w2 ⟨rfl, hb2⟩
    have hbw2 : Below w.heap.size w w2 := keepS hb2 hbA
    have HX2 := Lib.hid (HX1.out.below hb2)
    go_wp2_with fail
    refine (H24.out w2 _ _ (HT.out w2 hbw2) HX2.out).mono ?_
    rintro e w3 ⟨rfl, hb3⟩
    have hbw3 : Below w.heap.size w w3 := keepS hb3 hbw2
    have HX3 := Lib.hid (HX2.out.below hb3)
    go_wp2_with fail
    refine (H25.out w3 _ _ (HT.out w3 hbw3) HX3.out).mono ?_
    rintro e w4 ⟨rfl, hb4⟩
    have hbw4 : Below w.heap.size w w4 := keepS hb4 hbw3
    clear hb2 hb3 hb4
    have hs4 := hbw4.size
    go_wp2_with fail
    have hb5 : Below w.heap.size w (((w4.alloc (.cells #[.int .i64 2, .int .i64 0, .int .i64 0, .string (upT 2 N), .slice none 0 0] 32)).alloc (.cells #[.int .i64 2, .int .i64 0, .int .i64 0, .string (upT 8 N), .slice none 0 0] 32)).alloc (.cells #[.int .i64 2, .int .i64 0, .int .i64 0, .string (upT 16 N), .slice none 0 0] 32)) := (by repeat (first | (with_reducible exact Below.refl _ _) | (with_reducible assumption) | ((with_reducible refine Below.alloc ?_ ?_ _); rotate_left; focus (first | exact Nat.le_refl _ | omega | (simp; done) | (simp; omega))) | ((with_reducible refine Below.setCell ?_ ?_ _); rotate_left; focus (first | exact Nat.le_refl _ | omega | (simp; done) | (simp; omega))) | (with_reducible refine Below.drew ?_) | (with_reducible refine below_drewN ?_ _) | ((with_reducible refine below_via (by assumption) ?_ ?_); focus (first | exact Nat.le_refl _ | omega | (simp; done) | (simp; omega)))))
    have C4 : Hid (TC (((w4.alloc (.cells #[.int .i64 2, .int .i64 0, .int .i64 0, .string (upT 2 N), .slice none 0 0] 32)).alloc (.cells #[.int .i64 2, .int .i64 0, .int .i64 0, .string (upT 8 N), .slice none 0 0] 32)).alloc (.cells #[.int .i64 2, .int .i64 0, .int .i64 0, .string (upT 16 N), .slice none 0 0] 32)) w4.heap.size (upT 2 N)) := Lib.hid (((tc_new w4 (upT 2 N)).below (w1 := (w4.alloc (.cells #[.int .i64 2, .int .i64 0, .int .i64 0, .string (upT 2 N), .slice none 0 0] 32)).alloc (.cells #[.int .i64 2, .int .i64 0, .int .i64 0, .string (upT 8 N), .slice none 0 0] 32)) (by repeat (first | (with_reducible exact Below.refl _ _) | (with_reducible assumption) | ((with_reducible refine Below.alloc ?_ ?_ _); rotate_left; focus (first | exact Nat.le_refl _ | omega | (simp; done) | (simp; omega))) | ((with_reducible refine Below.setCell ?_ ?_ _); rotate_left; focus (first | exact Nat.le_refl _ | omega | (simp; done) | (simp; omega))) | (with_reducible refine Below.drew ?_) | (with_reducible refine below_drewN ?_ _) | ((with_reducible refine below_via (by assumption) ?_ ?_); focus (first | exact Nat.le_refl _ | omega | (simp; done) | (simp; omega)))))).below (by repeat (first | (with_reducible exact Below.refl _ _) | (with_reducible assumption) | ((with_reducible refine Below.alloc ?_ ?_ _); rotate_left; focus (first | exact Nat.le_refl _ | omega | (simp; done) | (simp; omega))) | ((with_reducible refine Below.setCell ?_ ?_ _); rotate_left; focus (first | exact Nat.le_refl _ | omega | (simp; done) | (simp; omega))) | (with_reducible refine Below.drew ?_) | (with_reducible refine below_drewN ?_ _) | ((with_reducible refine below_via (by assumption) ?_ ?_); focus (first | exact Nat.le_refl _ | omega | (simp; done) | (simp; omega))))))
    have C5 : Hid (TC (((w4.alloc (.cells #[.int .i64 2, .int .i64 0, .int .i64 0, .string (upT 2 N), .slice none 0 0] 32)).alloc (.cells #[.int .i64 2, .int .i64 0, .int .i64 0, .string (upT 8 N), .slice none 0 0] 32)).alloc (.cells #[.int .i64 2, .int .i64 0, .int .i64 0, .string (upT 16 N), .slice none 0 0] 32)) (w4.heap.size + 1) (upT 8 N)) := Lib.hid (by
      have h := (tc_new (w4.alloc (.cells #[.int .i64 2, .int .i64 0, .int .i64 0, .string (upT 2 N), .slice none 0 0] 32)) (upT 8 N)).below (w1 := (((w4.alloc (.cells #[.int .i64 2, .int .i64 0, .int .i64 0, .string (upT 2 N), .slice none 0 0] 32)).alloc (.cells #[.int .i64 2, .int .i64 0, .int .i64 0, .string (upT 8 N), .slice none 0 0] 32)).alloc (.cells #[.int .i64 2, .int .i64 0, .int .i64 0, .string (upT 16 N), .slice none 0 0] 32))) (by repeat (first | (with_reducible exact Below.refl _ _) | (with_reducible assumption) | ((with_reducible refine Below.alloc ?_ ?_ _); rotate_left; focus (first | exact Nat.le_refl _ | omega | (simp; done) | (simp; omega))) | ((with_reducible refine Below.setCell ?_ ?_ _); rotate_left; focus (first | exact Nat.le_refl _ | omega | (simp; done) | (simp; omega))) | (with_reducible refine Below.drew ?_) | (with_reducible refine below_drewN ?_ _) | ((with_reducible refine below_via (by assumption) ?_ ?_); focus (first | exact Nat.le_refl _ | omega | (simp; done) | (simp; omega)))))
      rw [show (w4.alloc (.cells #[.int .i64 2, .int .i64 0, .int .i64 0, .string (upT 2 N), .slice none 0 0] 32)).heap.size = w4.heap.size + 1 by simp] at h
      exact h)
    have C6 : Hid (TC (((w4.alloc (.cells #[.int .i64 2, .int .i64 0, .int .i64 0, .string (upT 2 N), .slice none 0 0] 32)).alloc (.cells #[.int .i64 2, .int .i64 0, .int .i64 0, .string (upT 8 N), .slice none 0 0] 32)).alloc (.cells #[.int .i64 2, .int .i64 0, .int .i64 0, .string (upT 16 N), .slice none 0 0] 32)) (w4.heap.size + 1 + 1) (upT 16 N)) := Lib.hid (by
      have h := tc_new ((w4.alloc (.cells #[.int .i64 2, .int .i64 0, .int .i64 0, .string (upT 2 N), .slice none 0 0] 32)).alloc (.cells #[.int .i64 2, .int .i64 0, .int .i64 0, .string (upT 8 N), .slice none 0 0] 32)) (upT 16 N)
      rw [show ((w4.alloc (.cells #[.int .i64 2, .int .i64 0, .int .i64 0, .string (upT 2 N), .slice none 0 0] 32)).alloc (.cells #[.int .i64 2, .int .i64 0, .int .i64 0, .string (upT 8 N), .slice none 0 0] 32)).heap.size = w4.heap.size + 1 + 1 by simp] at h
      exact h)
    generalize (((w4.alloc (.cells #[.int .i64 2, .int .i64 0, .int .i64 0, .string (upT 2 N), .slice none 0 0] 32)).alloc (.cells #[.int .i64 2, .int .i64 0, .int .i64 0, .string (upT 8 N), .slice none 0 0] 32)).alloc (.cells #[.int .i64 2, .int .i64 0, .int .i64 0, .string (upT 16 N), .slice none 0 0] 32)) = X0 at hb5 C4 C5 C6 ⊢
    refine (H18n.out X0).mono ?_
    rintro e u0a ⟨rfl, hu0a⟩
    have hw0a : Below w.heap.size w u0a := keepS hu0a hb5
    go_wp2_with fail
    refine (c18 2 u0a (by omega) (by omega)).mono ?_
    rintro e u0b ⟨rfl, hu0b⟩
    have hw0b : Below w.heap.size w u0b := keepS hu0b hw0a
    have hk0 : Below X0.heap.size X0 u0b := keepS hu0b hu0a
    go_wp2_with fail
    have hx0 : VRow (u0b.alloc (.cells #[.int .i64 1, .int .i64 N, .int .i64 1, .string ⟨#[]⟩, .slice none 0 0, .int .i64 1, .int .i64 2, .int .i64 1, .string ⟨#[]⟩, .slice none 0 0] 32)) (some ⟨u0b.heap.size, 0, none⟩) [vN (N : Int), vN ((2 : Nat) : Int)] := vrow_two u0b (vN (N : Int)) (vN 2)
    have HX0 := Lib.hid hx0
    clear hx0
    have hv0 : Below w.heap.size w (u0b.alloc (.cells #[.int .i64 1, .int .i64 N, .int .i64 1, .string ⟨#[]⟩, .slice none 0 0, .int .i64 1, .int .i64 2, .int .i64 1, .string ⟨#[]⟩, .slice none 0 0] 32)) := hw0b.alloc hw0b.size _
    have hl0 : Below X0.heap.size X0 (u0b.alloc (.cells #[.int .i64 1, .int .i64 N, .int .i64 1, .string ⟨#[]⟩, .slice none 0 0, .int .i64 1, .int .i64 2, .int .i64 1, .string ⟨#[]⟩, .slice none 0 0] 32)) := hk0.alloc hk0.size _
    generalize (u0b.alloc (.cells #[.int .i64 1, .int .i64 N, .int .i64 1, .string ⟨#[]⟩, .slice none 0 0, .int .i64 1, .int .i64 2, .int .i64 1, .string ⟨#[]⟩, .slice none 0 0] 32)) = v0 at HX0 hv0 hl0 ⊢
    refine (HS2.out v0 _ _ (HT.out v0 hv0) HX0.out).mono ?_
    rintro e y0 ⟨rfl, hy0⟩
    have hyw0 : Below w.heap.size w y0 := keepS hy0 hv0
    have hyX0 : Below X0.heap.size X0 y0 := keepS hy0 hl0
    clear hu0a hu0b hy0 hl0 hk0
    go_wp2_with fail
    have hz0 : Below w.heap.size w (y0.alloc (.cells #[.int .i64 2, .int .i64 0, .int .i64 0, .string (upT 2 N), .slice none 0 0] 32)) := hyw0.alloc hyw0.size _
    have hzX0 : Below X0.heap.size X0 (y0.alloc (.cells #[.int .i64 2, .int .i64 0, .int .i64 0, .string (upT 2 N), .slice none 0 0] 32)) := hyX0.alloc hyX0.size _
    have D0 := Lib.hid (tc_new y0 (upT 2 N))
    have C40 := Lib.hid (C4.out.below hzX0)
    have C50 := Lib.hid (C5.out.below hzX0)
    have C60 := Lib.hid (C6.out.below hzX0)
    generalize (y0.alloc (.cells #[.int .i64 2, .int .i64 0, .int .i64 0, .string (upT 2 N), .slice none 0 0] 32)) = X1 at hz0 hzX0 D0 C40 C50 C60 ⊢
    clear hzX0 hyX0
    refine (H18n.out X1).mono ?_
    rintro e u1a ⟨rfl, hu1a⟩
    have hw1a : Below w.heap.size w u1a := keepS hu1a hz0
    go_wp2_with fail
    refine (c18 8 u1a (by omega) (by omega)).mono ?_
    rintro e u1b ⟨rfl, hu1b⟩
    have hw1b : Below w.heap.size w u1b := keepS hu1b hw1a
    have hk1 : Below X1.heap.size X1 u1b := keepS hu1b hu1a
    go_wp2_with fail
    have hx1 : VRow (u1b.alloc (.cells #[.int .i64 1, .int .i64 N, .int .i64 1, .string ⟨#[]⟩, .slice none 0 0, .int .i64 1, .int .i64 8, .int .i64 1, .string ⟨#[]⟩, .slice none 0 0] 32)) (some ⟨u1b.heap.size, 0, none⟩) [vN (N : Int), vN ((8 : Nat) : Int)] := vrow_two u1b (vN (N : Int)) (vN 8)
    have HX1 := Lib.hid hx1
    clear hx1
    have hv1 : Below w.heap.size w (u1b.alloc (.cells #[.int .i64 1, .int .i64 N, .int .i64 1, .string ⟨#[]⟩, .slice none 0 0, .int .i64 1, .int .i64 8, .int .i64 1, .string ⟨#[]⟩, .slice none 0 0] 32)) := hw1b.alloc hw1b.size _
    have hl1 : Below X1.heap.size X1 (u1b.alloc (.cells #[.int .i64 1, .int .i64 N, .int .i64 1, .string ⟨#[]⟩, .slice none 0 0, .int .i64 1, .int .i64 8, .int .i64 1, .string ⟨#[]⟩, .slice none 0 0] 32)) := hk1.alloc hk1.size _
    generalize (u1b.alloc (.cells #[.int .i64 1, .int .i64 N, .int .i64 1, .string ⟨#[]⟩, .slice none 0 0, .int .i64 1, .int .i64 8, .int .i64 1, .string ⟨#[]⟩, .slice none 0 0] 32)) = v1 at HX1 hv1 hl1 ⊢
    refine (HS8.out v1 _ _ (HT.out v1 hv1) HX1.out).mono ?_
    rintro e y1 ⟨rfl, hy1⟩
    have hyw1 : Below w.heap.size w y1 := keepS hy1 hv1
    have hyX1 : Below X1.heap.size X1 y1 := keepS hy1 hl1
    clear hu1a hu1b hy1 hl1 hk1
    go_wp2_with fail
    have hz1 : Below w.heap.size w (y1.alloc (.cells #[.int .i64 2, .int .i64 0, .int .i64 0, .string (upT 8 N), .slice none 0 0] 32)) := hyw1.alloc hyw1.size _
    have hzX1 : Below X1.heap.size X1 (y1.alloc (.cells #[.int .i64 2, .int .i64 0, .int .i64 0, .string (upT 8 N), .slice none 0 0] 32)) := hyX1.alloc hyX1.size _
    have D1 := Lib.hid (tc_new y1 (upT 8 N))
    have C401 := Lib.hid (C40.out.below hzX1)
    have C501 := Lib.hid (C50.out.below hzX1)
    have C601 := Lib.hid (C60.out.below hzX1)
    have D01 := Lib.hid (D0.out.below hzX1)
    generalize (y1.alloc (.cells #[.int .i64 2, .int .i64 0, .int .i64 0, .string (upT 8 N), .slice none 0 0] 32)) = X2 at hz1 hzX1 D1 C401 C501 C601 D01 ⊢
    clear hzX1 hyX1
    refine (H18n.out X2).mono ?_
    rintro e u2a ⟨rfl, hu2a⟩
    have hw2a : Below w.heap.size w u2a := keepS hu2a hz1
    go_wp2_with fail
    refine (c18 16 u2a (by omega) (by omega)).mono ?_
    rintro e u2b ⟨rfl, hu2b⟩
    have hw2b : Below w.heap.size w u2b := keepS hu2b hw2a
    have hk2 : Below X2.heap.size X2 u2b := keepS hu2b hu2a
    go_wp2_with fail
    have hx2 : VRow (u2b.alloc (.cells #[.int .i64 1, .int .i64 N, .int .i64 1, .string ⟨#[]⟩, .slice none 0 0, .int .i64 1, .int .i64 16, .int .i64 1, .string ⟨#[]⟩, .slice none 0 0] 32)) (some ⟨u2b.heap.size, 0, none⟩) [vN (N : Int), vN ((16 : Nat) : Int)] := vrow_two u2b (vN (N : Int)) (vN 16)
    have HX2 := Lib.hid hx2
    clear hx2
    have hv2 : Below w.heap.size w (u2b.alloc (.cells #[.int .i64 1, .int .i64 N, .int .i64 1, .string ⟨#[]⟩, .slice none 0 0, .int .i64 1, .int .i64 16, .int .i64 1, .string ⟨#[]⟩, .slice none 0 0] 32)) := hw2b.alloc hw2b.size _
    have hl2 : Below X2.heap.size X2 (u2b.alloc (.cells #[.int .i64 1, .int .i64 N, .int .i64 1, .string ⟨#[]⟩, .slice none 0 0, .int .i64 1, .int .i64 16, .int .i64 1, .string ⟨#[]⟩, .slice none 0 0] 32)) := hk2.alloc hk2.size _
    generalize (u2b.alloc (.cells #[.int .i64 1, .int .i64 N, .int .i64 1, .string ⟨#[]⟩, .slice none 0 0, .int .i64 1, .int .i64 16, .int .i64 1, .string ⟨#[]⟩, .slice none 0 0] 32)) = v2 at HX2 hv2 hl2 ⊢
    refine (HS16.out v2 _ _ (HT.out v2 hv2) HX2.out).mono ?_
    rintro e y2 ⟨rfl, hy2⟩
    have hyw2 : Below w.heap.size w y2 := keepS hy2 hv2
    have hyX2 : Below X2.heap.size X2 y2 := keepS hy2 hl2
    clear hu2a hu2b hy2 hl2 hk2
    obtain ⟨p0l, p00, p01, p02, p03, p04⟩ := C401.out.below hyX2
    obtain ⟨p1l, p10, p11, p12, p13, p14⟩ := C501.out.below hyX2
    obtain ⟨p2l, p20, p21, p22, p23, p24⟩ := C601.out.below hyX2
    obtain ⟨p3l, p30, p31, p32, p33, p34⟩ := D01.out.below hyX2
    obtain ⟨p4l, p40, p41, p42, p43, p44⟩ := D1.out.below hyX2
    go_wp2_with fail
    have E0 := Lib.hid (C401.out.below (hyX2.alloc hyX2.size (.cells #[.int .i64 2, .int .i64 0, .int .i64 0, .string (upT 16 N), .slice none 0 0] 32)))
    have E1 := Lib.hid (C501.out.below (hyX2.alloc hyX2.size (.cells #[.int .i64 2, .int .i64 0, .int .i64 0, .string (upT 16 N), .slice none 0 0] 32)))
    have E2 := Lib.hid (C601.out.below (hyX2.alloc hyX2.size (.cells #[.int .i64 2, .int .i64 0, .int .i64 0, .string (upT 16 N), .slice none 0 0] 32)))
    have E3 := Lib.hid (D01.out.below (hyX2.alloc hyX2.size (.cells #[.int .i64 2, .int .i64 0, .int .i64 0, .string (upT 16 N), .slice none 0 0] 32)))
    have E4 := Lib.hid (D1.out.below (hyX2.alloc hyX2.size (.cells #[.int .i64 2, .int .i64 0, .int .i64 0, .string (upT 16 N), .slice none 0 0] 32)))
    have E5 := Lib.hid (tc_new y2 (upT 16 N))
    have hY : Below w.heap.size w (y2.alloc (.cells #[.int .i64 2, .int .i64 0, .int .i64 0, .string (upT 16 N), .slice none 0 0] 32)) := hyw2.alloc hyw2.size _
    clear p0l p00 p01 p02 p03 p04 p1l p10 p11 p12 p13 p14 p2l p20 p21 p22 p23 p24 p3l p30 p31 p32 p33 p34 p4l p40 p41 p42 p43 p44
    generalize (y2.alloc (.cells #[.int .i64 2, .int .i64 0, .int .i64 0, .string (upT 16 N), .slice none 0 0] 32)) = Y at E0 E1 E2 E3 E4 E5 hY ⊢
    refine (c21 2 0 0 (upT 2 N) Y).mono ?_
    rintro e s1 ⟨rfl, hs1⟩
    have hws1 : Below w.heap.size w s1 := keepS hs1 hY
    obtain ⟨pl, p0, p1, p2, p3, p4⟩ := E1.out.below hs1
    obtain ⟨ql, q0, q1, q2, q3, q4⟩ := E4.out.below hs1
    have E2' := Lib.hid (E2.out.below hs1)
    have E5' := Lib.hid (E5.out.below hs1)
    go_wp2_with fail
    refine (c21 2 0 0 (upT 8 N) s1).mono ?_
    rintro e s2 ⟨rfl, hs2⟩
    have hws2 : Below w.heap.size w s2 := keepS hs2 hws1
    clear pl p0 p1 p2 p3 p4 ql q0 q1 q2 q3 q4
    obtain ⟨pl, p0, p1, p2, p3, p4⟩ := E2'.out.below hs2
    obtain ⟨ql, q0, q1, q2, q3, q4⟩ := E5'.out.below hs2
    go_wp2_with fail
    refine (c21 2 0 0 (upT 16 N) s2).mono ?_
    rintro e s3 ⟨rfl, hs3⟩
    have hws3 : Below w.heap.size w s3 := keepS hs3 hws2
    go_wp2_with fail
    go_ret
    exact ret_mk hws3
  · by_cases h1 : n < 0
    · clear hT hin
      go_enter Tryz.func6, Tryz.ntmps6
      go_wp2_with fail
      go_ret
      exact ret_mk (Below.refl _ _)
    · have h2 : 511 < n := by omega
      clear hT hin
      go_enter Tryz.func6, Tryz.ntmps6
      go_wp2_with fail
      go_ret
      exact ret_mk (Below.refl _ _)
end Go.Proofs.YtkhgaenffnoimaaGreatDoor
