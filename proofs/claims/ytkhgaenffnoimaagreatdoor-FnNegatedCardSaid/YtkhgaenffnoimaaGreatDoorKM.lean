/- calcEq, calcNEq on two numbers. -/
import Derived.Test.YtkhgaenffnoimaaGreatDoorKL
import Derived.Deep.RegionWith
set_option linter.unusedSimpArgs false
set_option linter.unusedVariables false
namespace Go.Proofs.YtkhgaenffnoimaaGreatDoor
open Go.RowKit FL
attribute [local go_sem] run_store_float
set_option maxRecDepth 100000 in
set_option maxHeartbeats 2000000 in
theorem c78_N (k : Int) (w : World) (hk : k.natAbs ≤ 9999) (hT : Tabs w) : Calls Tryz.prog 78 #[fN (floatOfInt FloatKind.f64 k)] w (Ret w (.string (plainS k))) := by
  have H : Hid (∀ W, Below w.heap.size w W → Calls Tryz.prog 111 #[.float .f64 (floatOfInt FloatKind.f64 k), .int .u8 103, .int .i64 (-1), .int .i64 64] W (Ret W (.string (plainS k)))) := Lib.hid fun W hW => c111 k W (by omega) (hT.below hW hT.pow.1)
  clear hT hk
  generalize plainS k = s at *
  generalize floatOfInt FloatKind.f64 k = f at *
  unfold fN
  go_enter Tryz.func78, Tryz.ntmps78
  go_wp2_with fail
  refine (H.out _ (by repeat (first | (with_reducible exact Below.refl _ _) | (with_reducible assumption) | ((with_reducible refine Below.alloc ?_ ?_ _); rotate_left; focus (first | exact Nat.le_refl _ | omega | (simp; done) | (simp; omega))) | ((with_reducible refine Below.setCell ?_ ?_ _); rotate_left; focus (first | exact Nat.le_refl _ | omega | (simp; done) | (simp; omega))) | (with_reducible refine Below.drew ?_) | (with_reducible refine below_drewN ?_ _) | ((with_reducible refine below_via (by assumption) ?_ ?_); focus (first | exact Nat.le_refl _ | omega | (simp; done) | (simp; omega)))))).mono ?_
  rintro e w1 ⟨rfl, hb⟩
  have hbA : Below w.heap.size w w1 := by
    refine Below.trans ?_ (hb.mono ?_)
    · exact (by repeat (first | (with_reducible exact Below.refl _ _) | (with_reducible assumption) | ((with_reducible refine Below.alloc ?_ ?_ _); rotate_left; focus (first | exact Nat.le_refl _ | omega | (simp; done) | (simp; omega))) | ((with_reducible refine Below.setCell ?_ ?_ _); rotate_left; focus (first | exact Nat.le_refl _ | omega | (simp; done) | (simp; omega))) | (with_reducible refine Below.drew ?_) | (with_reducible refine below_drewN ?_ _) | ((with_reducible refine below_via (by assumption) ?_ ?_); focus (first | exact Nat.le_refl _ | omega | (simp; done) | (simp; omega)))))
    · simp
  clear hb
  go_wp2_with fail
  go_ret
  exact ret_mk hbA
theorem LB.drew {w : World} {g : Nat} {vs : List Value} (h : LB w g vs) : LB w.drew g vs := ⟨h.lt, h.c, h.fr⟩
theorem cells10 {w : World} {g f : Nat} (h : LB w g (fNc f)) : w.cell? ⟨g, 0, none⟩ = some (.string ⟨#[]⟩) ∧ w.cell? ⟨g, 1, none⟩ = some (.float .f64 f) ∧ w.cell? ⟨g, 2, none⟩ = some (.string ⟨#[]⟩) ∧ w.cell? ⟨g, 3, none⟩ = some (.slice none 0 0) ∧ w.cell? ⟨g, 4, none⟩ = some (.slice none 0 0) ∧
    w.cell? ⟨g, 5, none⟩ = some (.bool false) ∧ w.cell? ⟨g, 6, none⟩ = some (.string ⟨#[]⟩) ∧ w.cell? ⟨g, 7, none⟩ = some (.int .u8 1) ∧ w.cell? ⟨g, 8, none⟩ = some (.pointer none) ∧ w.cell? ⟨g, 9, none⟩ = some (.pointer none) :=
  ⟨h.c 0 _ rfl, h.c 1 _ rfl, h.c 2 _ rfl, h.c 3 _ rfl, h.c 4 _ rfl, h.c 5 _ rfl, h.c 6 _ rfl, h.c 7 _ rfl, h.c 8 _ rfl, h.c 9 _ rfl⟩
/-- Do two numbers read alike? -/
def eqT (c e : Int) : Bool := (plainS c).toList == (plainS e).toList
set_option maxRecDepth 100000 in
set_option maxHeartbeats 4000000 in
theorem c101 (kc ke : Int) (S L : Nat) (w : World) (h : ST0 w S L) (hkc : kc.natAbs ≤ 9999) (hke : ke.natAbs ≤ 9999) (hT : Tabs w) :
    Calls Tryz.prog 101 #[fN (floatOfInt FloatKind.f64 kc), fN (floatOfInt FloatKind.f64 ke), .pointer (some ⟨S, 0, none⟩)] w (Calc w S L (eqT kc ke)) := by
  have HS := Lib.hid h
  have HC : Hid (∀ W, Below w.heap.size w W → Calls Tryz.prog 78 #[fN (floatOfInt FloatKind.f64 kc)] W (Ret W (.string (plainS kc)))) := Lib.hid fun W hW => c78_N kc W hkc (hT.below hW hT.pow.1)
  have HE : Hid (∀ W, Below w.heap.size w W → Calls Tryz.prog 78 #[fN (floatOfInt FloatKind.f64 ke)] W (Ret W (.string (plainS ke)))) := Lib.hid fun W hW => c78_N ke W hke (hT.below hW hT.pow.1)
  clear h hT hkc hke
  unfold eqT
  generalize plainS kc = sc at *
  generalize plainS ke = se at *
  generalize floatOfInt FloatKind.f64 kc = fc at *
  generalize floatOfInt FloatKind.f64 ke = fe at *
  unfold fN at *
  go_enter Tryz.func101, Tryz.ntmps101
  go_wp2_with fail
  generalize hW : World.alloc (World.alloc w _) _ = W0
  have hb0 : Below w.heap.size w W0 := by rw [← hW]; exact (by repeat (first | (with_reducible exact Below.refl _ _) | (with_reducible assumption) | ((with_reducible refine Below.alloc ?_ ?_ _); rotate_left; focus (first | exact Nat.le_refl _ | omega | (simp; done) | (simp; omega))) | ((with_reducible refine Below.setCell ?_ ?_ _); rotate_left; focus (first | exact Nat.le_refl _ | omega | (simp; done) | (simp; omega))) | (with_reducible refine Below.drew ?_) | (with_reducible refine below_drewN ?_ _) | ((with_reducible refine below_via (by assumption) ?_ ?_); focus (first | exact Nat.le_refl _ | omega | (simp; done) | (simp; omega)))))
  have hb0d : Below w.heap.size w W0.drew := Below.drew hb0
  have hs0 : w.heap.size + 2 ≤ W0.heap.size := by rw [← hW]; simp
  have HA : LB W0 w.heap.size (fNc fc) := by
    rw [← hW]
    exact (lb_alloc w (fNc fc) 68).below (Below.alloc (Below.refl _ _) (Nat.le_refl _) _) (by simp [fNc])
  have HB : LB W0 (w.heap.size + 1) (fNc fe) := by
    rw [← hW]
    have := lb_alloc (w.alloc (.cells (fNc fc).toArray 68)) (fNc fe) 68
    rw [show (w.alloc (.cells (fNc fc).toArray 68)).heap.size = w.heap.size + 1 by simp] at this
    exact this
  have hS0 := HS.out.below hb0
  have HAd := HA.drew
  have HBd := HB.drew
  clear hW
  obtain ⟨a0, a1, a2, a3, a4, a5, a6, a7, a8, a9⟩ := cells10 HAd
  obtain ⟨b0, b1, b2, b3, b4, b5, b6, b7, b8, b9⟩ := cells10 HBd
  have hS0d : ST0 W0.drew S L := hS0.below (Below.drew (Below.refl _ _))
  have hs0d : w.heap.size + 2 ≤ W0.drew.heap.size := hs0
  clear HA HB hS0 hb0 hs0
  go_region_with (first
    | (go_at_call_of 78 (Value.float FloatKind.f64 fc); refine (HC.out _ ?_).mono ?_; (first | (with_reducible exact hx1) | exact hb0d); rintro e w1 ⟨rfl, hb1⟩; first | (have hx2 : Below w.heap.size w w1 := hx1.trans (hb1.mono hx1.size); have HA2 := HA1.below hb1 HA1.lt; have HB2 := HB1.below hb1 HB1.lt; have hS2 := hS1.below hb1; clear hb1 c0 c1 c2 c3 c4 c5 c6 c7 c8 c9 d0 d1 d2 d3 d4 d5 d6 d7 d8 d9) | (have hx1 : Below w.heap.size w w1 := hb0d.trans (hb1.mono hb0d.size); have HA1 := HAd.below hb1 HAd.lt; have HB1 := HBd.below hb1 HBd.lt; have hS1 := hS0d.below hb1; clear hb1 a0 a1 a2 a3 a4 a5 a6 a7 a8 a9 b0 b1 b2 b3 b4 b5 b6 b7 b8 b9; obtain ⟨c0, c1, c2, c3, c4, c5, c6, c7, c8, c9⟩ := cells10 HA1; obtain ⟨d0, d1, d2, d3, d4, d5, d6, d7, d8, d9⟩ := cells10 HB1))
    | (go_at_call_of 78 (Value.float FloatKind.f64 fe); refine (HE.out _ ?_).mono ?_; (first | (with_reducible exact hx1) | exact hb0d); rintro e w1 ⟨rfl, hb1⟩; first | (have hx2 : Below w.heap.size w w1 := hx1.trans (hb1.mono hx1.size); have HA2 := HA1.below hb1 HA1.lt; have HB2 := HB1.below hb1 HB1.lt; have hS2 := hS1.below hb1; clear hb1 c0 c1 c2 c3 c4 c5 c6 c7 c8 c9 d0 d1 d2 d3 d4 d5 d6 d7 d8 d9) | (have hx1 : Below w.heap.size w w1 := hb0d.trans (hb1.mono hb0d.size); have HA1 := HAd.below hb1 HAd.lt; have HB1 := HBd.below hb1 HBd.lt; have hS1 := hS0d.below hb1; clear hb1 a0 a1 a2 a3 a4 a5 a6 a7 a8 a9 b0 b1 b2 b3 b4 b5 b6 b7 b8 b9; obtain ⟨c0, c1, c2, c3, c4, c5, c6, c7, c8, c9⟩ := cells10 HA1; obtain ⟨d0, d1, d2, d3, d4, d5, d6, d7, d8, d9⟩ := cells10 HB1))
    | (go_at_call 92; refine (c92u _ _).mono ?_; rintro e w1 ⟨rfl, hb3⟩; have hx3 := hx2.trans (hb3.mono hx2.size); have hS3 := hS2.below hb3; clear hb3)
    | (go_at_call 130; refine (c130 S L 68 _ _ hS3).mono ?_; rintro e w1 ⟨b, rfl, hbb, hst, hbl, hkeep⟩; have HST := Lib.hid hst; clear hkeep hst))
  all_goals
    have hxs := hx3.size
    have hLw := HS.out.dl.lt
    have hbZ := (hx3.mono (by omega)).trans hbl
    clear hx1 hx2 hx3 hbl
    go_wp2_with fail
    go_ret
    exact ⟨b, rfl, by omega, HST.out, hbZ⟩
set_option maxRecDepth 100000 in
set_option maxHeartbeats 4000000 in
theorem c102 (kc ke : Int) (S L : Nat) (w : World) (h : ST0 w S L) (hkc : kc.natAbs ≤ 9999) (hke : ke.natAbs ≤ 9999) (hT : Tabs w) :
    Calls Tryz.prog 102 #[fN (floatOfInt FloatKind.f64 kc), fN (floatOfInt FloatKind.f64 ke), .pointer (some ⟨S, 0, none⟩)] w (Calc w S L (!eqT kc ke)) := by
  have HS := Lib.hid h
  have HC : Hid (∀ W, Below w.heap.size w W → Calls Tryz.prog 78 #[fN (floatOfInt FloatKind.f64 kc)] W (Ret W (.string (plainS kc)))) := Lib.hid fun W hW => c78_N kc W hkc (hT.below hW hT.pow.1)
  have HE : Hid (∀ W, Below w.heap.size w W → Calls Tryz.prog 78 #[fN (floatOfInt FloatKind.f64 ke)] W (Ret W (.string (plainS ke)))) := Lib.hid fun W hW => c78_N ke W hke (hT.below hW hT.pow.1)
  clear h hT hkc hke
  unfold eqT
  show Calls _ _ _ _ (Calc w S L ((plainS kc).toList != (plainS ke).toList))
  generalize plainS kc = sc at *
  generalize plainS ke = se at *
  generalize floatOfInt FloatKind.f64 kc = fc at *
  generalize floatOfInt FloatKind.f64 ke = fe at *
  unfold fN at *
  go_enter Tryz.func102, Tryz.ntmps102
  go_wp2_with fail
  generalize hW : World.alloc (World.alloc w _) _ = W0
  have hb0 : Below w.heap.size w W0 := by rw [← hW]; exact (by repeat (first | (with_reducible exact Below.refl _ _) | (with_reducible assumption) | ((with_reducible refine Below.alloc ?_ ?_ _); rotate_left; focus (first | exact Nat.le_refl _ | omega | (simp; done) | (simp; omega))) | ((with_reducible refine Below.setCell ?_ ?_ _); rotate_left; focus (first | exact Nat.le_refl _ | omega | (simp; done) | (simp; omega))) | (with_reducible refine Below.drew ?_) | (with_reducible refine below_drewN ?_ _) | ((with_reducible refine below_via (by assumption) ?_ ?_); focus (first | exact Nat.le_refl _ | omega | (simp; done) | (simp; omega)))))
  have hb0d : Below w.heap.size w W0.drew := Below.drew hb0
  have hs0 : w.heap.size + 2 ≤ W0.heap.size := by rw [← hW]; simp
  have HA : LB W0 w.heap.size (fNc fc) := by
    rw [← hW]
    exact (lb_alloc w (fNc fc) 68).below (Below.alloc (Below.refl _ _) (Nat.le_refl _) _) (by simp [fNc])
  have HB : LB W0 (w.heap.size + 1) (fNc fe) := by
    rw [← hW]
    have := lb_alloc (w.alloc (.cells (fNc fc).toArray 68)) (fNc fe) 68
    rw [show (w.alloc (.cells (fNc fc).toArray 68)).heap.size = w.heap.size + 1 by simp] at this
    exact this
  have hS0 := HS.out.below hb0
  have HAd := HA.drew
  have HBd := HB.drew
  clear hW
  obtain ⟨a0, a1, a2, a3, a4, a5, a6, a7, a8, a9⟩ := cells10 HAd
  obtain ⟨b0, b1, b2, b3, b4, b5, b6, b7, b8, b9⟩ := cells10 HBd
  have hS0d : ST0 W0.drew S L := hS0.below (Below.drew (Below.refl _ _))
  have hs0d : w.heap.size + 2 ≤ W0.drew.heap.size := hs0
  clear HA HB hS0 hb0 hs0
  go_region_with (first
    | (go_at_call_of 78 (Value.float FloatKind.f64 fc); refine (HC.out _ ?_).mono ?_; (first | (with_reducible exact hx1) | exact hb0d); rintro e w1 ⟨rfl, hb1⟩; first | (have hx2 : Below w.heap.size w w1 := hx1.trans (hb1.mono hx1.size); have HA2 := HA1.below hb1 HA1.lt; have HB2 := HB1.below hb1 HB1.lt; have hS2 := hS1.below hb1; clear hb1 c0 c1 c2 c3 c4 c5 c6 c7 c8 c9 d0 d1 d2 d3 d4 d5 d6 d7 d8 d9) | (have hx1 : Below w.heap.size w w1 := hb0d.trans (hb1.mono hb0d.size); have HA1 := HAd.below hb1 HAd.lt; have HB1 := HBd.below hb1 HBd.lt; have hS1 := hS0d.below hb1; clear hb1 a0 a1 a2 a3 a4 a5 a6 a7 a8 a9 b0 b1 b2 b3 b4 b5 b6 b7 b8 b9; obtain ⟨c0, c1, c2, c3, c4, c5, c6, c7, c8, c9⟩ := cells10 HA1; obtain ⟨d0, d1, d2, d3, d4, d5, d6, d7, d8, d9⟩ := cells10 HB1))
    | (go_at_call_of 78 (Value.float FloatKind.f64 fe); refine (HE.out _ ?_).mono ?_; (first | (with_reducible exact hx1) | exact hb0d); rintro e w1 ⟨rfl, hb1⟩; first | (have hx2 : Below w.heap.size w w1 := hx1.trans (hb1.mono hx1.size); have HA2 := HA1.below hb1 HA1.lt; have HB2 := HB1.below hb1 HB1.lt; have hS2 := hS1.below hb1; clear hb1 c0 c1 c2 c3 c4 c5 c6 c7 c8 c9 d0 d1 d2 d3 d4 d5 d6 d7 d8 d9) | (have hx1 : Below w.heap.size w w1 := hb0d.trans (hb1.mono hb0d.size); have HA1 := HAd.below hb1 HAd.lt; have HB1 := HBd.below hb1 HBd.lt; have hS1 := hS0d.below hb1; clear hb1 a0 a1 a2 a3 a4 a5 a6 a7 a8 a9 b0 b1 b2 b3 b4 b5 b6 b7 b8 b9; obtain ⟨c0, c1, c2, c3, c4, c5, c6, c7, c8, c9⟩ := cells10 HA1; obtain ⟨d0, d1, d2, d3, d4, d5, d6, d7, d8, d9⟩ := cells10 HB1))
    | (go_at_call 92; refine (c92u _ _).mono ?_; rintro e w1 ⟨rfl, hb3⟩; have hx3 := hx2.trans (hb3.mono hx2.size); have hS3 := hS2.below hb3; clear hb3)
    | (go_at_call 130; refine (c130 S L 68 _ _ hS3).mono ?_; rintro e w1 ⟨b, rfl, hbb, hst, hbl, hkeep⟩; have HST := Lib.hid hst; clear hkeep hst))
  all_goals
    have hxs := hx3.size
    have hLw := HS.out.dl.lt
    have hbZ := (hx3.mono (by omega)).trans hbl
    clear hx1 hx2 hx3 hbl
    go_wp2_with fail
    go_ret
    exact ⟨b, rfl, by omega, HST.out, hbZ⟩
end Go.Proofs.YtkhgaenffnoimaaGreatDoor
