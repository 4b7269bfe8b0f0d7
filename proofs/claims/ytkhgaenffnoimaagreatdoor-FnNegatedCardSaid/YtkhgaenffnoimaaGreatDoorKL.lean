/- calcL, calcLe, calcG, calcGe on two numbers (printed by gencalc.py). -/
import Derived.Test.YtkhgaenffnoimaaGreatDoorKK
set_option linter.unusedSimpArgs false
set_option linter.unusedVariables false
namespace Go.Proofs.YtkhgaenffnoimaaGreatDoor
open Go.RowKit FL
attribute [local go_sem] run_store_float
/-- What a calculation leaves: its answer alone on the stack. -/
def Calc (w : World) (S L : Nat) (r : Bool) : Ending → World → Prop := fun e w' => ∃ b, e = .returned .nilIface ∧ w.heap.size ≤ b ∧ ST1 w' S L b (.iface 68 (fB (bt r))) ∧ Below L w w'
theorem c92f (w : World) : Calls Tryz.prog 92 #[.bool false] w (Ret w (.agg #[.string ⟨#[]⟩, .float .f64 (bt false), .string ⟨#[]⟩, .slice none 0 0, .slice none 0 0, .bool true, .string ⟨#[]⟩, .int .u8 1, .pointer none, .pointer none])) := c92u false w
theorem c92t (w : World) : Calls Tryz.prog 92 #[.bool true] w (Ret w (.agg #[.string ⟨#[]⟩, .float .f64 (bt true), .string ⟨#[]⟩, .slice none 0 0, .slice none 0 0, .bool true, .string ⟨#[]⟩, .int .u8 1, .pointer none, .pointer none])) := c92u true w
set_option maxRecDepth 100000 in
set_option maxHeartbeats 2000000 in
theorem c103_lt (fc fe S L : Nat) (w : World) (h : ST0 w S L) (o : FloatKind.f64.format.order fe fc = some Ordering.lt) :
    Calls Tryz.prog 103 #[fN fc, fN fe, .pointer (some ⟨S, 0, none⟩)] w (Calc w S L true) := by
  have HS := Lib.hid h
  clear h
  unfold fN
  go_enter Tryz.func103, Tryz.ntmps103
  go_wp2_with fail
  generalize hW : World.alloc (World.alloc w _) _ = W0
  have hb0 : Below w.heap.size w W0 := by rw [← hW]; exact (by repeat (first | (with_reducible exact Below.refl _ _) | (with_reducible assumption) | ((with_reducible refine Below.alloc ?_ ?_ _); rotate_left; focus (first | exact Nat.le_refl _ | omega | (simp; done) | (simp; omega))) | ((with_reducible refine Below.setCell ?_ ?_ _); rotate_left; focus (first | exact Nat.le_refl _ | omega | (simp; done) | (simp; omega))) | (with_reducible refine Below.drew ?_) | (with_reducible refine below_drewN ?_ _) | ((with_reducible refine below_via (by assumption) ?_ ?_); focus (first | exact Nat.le_refl _ | omega | (simp; done) | (simp; omega)))))
  have hs0 : W0.heap.size = w.heap.size + 2 := by rw [← hW]; simp
  have HA : LB W0 w.heap.size (fNc fc) := by
    rw [← hW]
    exact (lb_alloc w (fNc fc) 68).below (Below.alloc (Below.refl _ _) (Nat.le_refl _) _) (by simp [fNc])
  have HB : LB W0 (w.heap.size + 1) (fNc fe) := by
    rw [← hW]
    have := lb_alloc (w.alloc (.cells (fNc fc).toArray 68)) (fNc fe) 68
    rw [show (w.alloc (.cells (fNc fc).toArray 68)).heap.size = w.heap.size + 1 by simp] at this
    exact this
  have hS0 := HS.out.below hb0
  clear hW
  refine (c92t W0).mono ?_
  rintro e w1 ⟨rfl, hb1⟩
  have hbA : Below w.heap.size w w1 := hb0.trans (hb1.mono hb0.size)
  have HA1 := HA.below hb1 HA.lt
  have HB1 := HB.below hb1 HB.lt
  have hS1 := hS0.below hb1
  have hs1 : w.heap.size + 2 ≤ w1.heap.size := by have := hb1.size; omega
  clear HA HB hS0 hb0 hb1 hs0
  have hc130 := Lib.hid (c130 S L 68 (.agg #[.string ⟨#[]⟩, .float .f64 (bt true), .string ⟨#[]⟩, .slice none 0 0, .slice none 0 0, .bool true, .string ⟨#[]⟩, .int .u8 1, .pointer none, .pointer none]) w1 hS1)
  have hLlt := HS.out.dl.lt
  go_wp2_with fail
  refine hc130.out.mono ?_
  rintro e w2 ⟨b, rfl, hbb, hst, hb2, hkeep⟩
  have a7 : w2.cell? ⟨w.heap.size, 7, none⟩ = some (.int .u8 1) := (hkeep _ _ HA1.lt (by omega)).trans (HA1.c 7 _ rfl)
  have b7 : w2.cell? ⟨w.heap.size + 1, 7, none⟩ = some (.int .u8 1) := (hkeep _ _ HB1.lt (by omega)).trans (HB1.c 7 _ rfl)
  have hbZ : Below L w w2 := (hbA.mono (by omega)).trans hb2
  have HST := Lib.hid hst
  clear hkeep hst HA1 HB1 hS1 hbA hb2 hc130
  go_wp2_with fail
  go_ret
  exact ⟨b, rfl, by omega, HST.out, hbZ⟩
set_option maxRecDepth 100000 in
set_option maxHeartbeats 2000000 in
theorem c103_eq (fc fe S L : Nat) (w : World) (h : ST0 w S L) (o : FloatKind.f64.format.order fe fc = some Ordering.eq) :
    Calls Tryz.prog 103 #[fN fc, fN fe, .pointer (some ⟨S, 0, none⟩)] w (Calc w S L false) := by
  have HS := Lib.hid h
  clear h
  unfold fN
  go_enter Tryz.func103, Tryz.ntmps103
  go_wp2_with fail
  generalize hW : World.alloc (World.alloc w _) _ = W0
  have hb0 : Below w.heap.size w W0 := by rw [← hW]; exact (by repeat (first | (with_reducible exact Below.refl _ _) | (with_reducible assumption) | ((with_reducible refine Below.alloc ?_ ?_ _); rotate_left; focus (first | exact Nat.le_refl _ | omega | (simp; done) | (simp; omega))) | ((with_reducible refine Below.setCell ?_ ?_ _); rotate_left; focus (first | exact Nat.le_refl _ | omega | (simp; done) | (simp; omega))) | (with_reducible refine Below.drew ?_) | (with_reducible refine below_drewN ?_ _) | ((with_reducible refine below_via (by assumption) ?_ ?_); focus (first | exact Nat.le_refl _ | omega | (simp; done) | (simp; omega)))))
  have hs0 : W0.heap.size = w.heap.size + 2 := by rw [← hW]; simp
  have HA : LB W0 w.heap.size (fNc fc) := by
    rw [← hW]
    exact (lb_alloc w (fNc fc) 68).below (Below.alloc (Below.refl _ _) (Nat.le_refl _) _) (by simp [fNc])
  have HB : LB W0 (w.heap.size + 1) (fNc fe) := by
    rw [← hW]
    have := lb_alloc (w.alloc (.cells (fNc fc).toArray 68)) (fNc fe) 68
    rw [show (w.alloc (.cells (fNc fc).toArray 68)).heap.size = w.heap.size + 1 by simp] at this
    exact this
  have hS0 := HS.out.below hb0
  clear hW
  refine (c92f W0).mono ?_
  rintro e w1 ⟨rfl, hb1⟩
  have hbA : Below w.heap.size w w1 := hb0.trans (hb1.mono hb0.size)
  have HA1 := HA.below hb1 HA.lt
  have HB1 := HB.below hb1 HB.lt
  have hS1 := hS0.below hb1
  have hs1 : w.heap.size + 2 ≤ w1.heap.size := by have := hb1.size; omega
  clear HA HB hS0 hb0 hb1 hs0
  have hc130 := Lib.hid (c130 S L 68 (.agg #[.string ⟨#[]⟩, .float .f64 (bt false), .string ⟨#[]⟩, .slice none 0 0, .slice none 0 0, .bool true, .string ⟨#[]⟩, .int .u8 1, .pointer none, .pointer none]) w1 hS1)
  have hLlt := HS.out.dl.lt
  go_wp2_with fail
  refine hc130.out.mono ?_
  rintro e w2 ⟨b, rfl, hbb, hst, hb2, hkeep⟩
  have a7 : w2.cell? ⟨w.heap.size, 7, none⟩ = some (.int .u8 1) := (hkeep _ _ HA1.lt (by omega)).trans (HA1.c 7 _ rfl)
  have b7 : w2.cell? ⟨w.heap.size + 1, 7, none⟩ = some (.int .u8 1) := (hkeep _ _ HB1.lt (by omega)).trans (HB1.c 7 _ rfl)
  have hbZ : Below L w w2 := (hbA.mono (by omega)).trans hb2
  have HST := Lib.hid hst
  clear hkeep hst HA1 HB1 hS1 hbA hb2 hc130
  go_wp2_with fail
  go_ret
  exact ⟨b, rfl, by omega, HST.out, hbZ⟩
set_option maxRecDepth 100000 in
set_option maxHeartbeats 2000000 in
theorem c103_gt (fc fe S L : Nat) (w : World) (h : ST0 w S L) (o : FloatKind.f64.format.order fe fc = some Ordering.gt) :
    Calls Tryz.prog 103 #[fN fc, fN fe, .pointer (some ⟨S, 0, none⟩)] w (Calc w S L false) := by
  have HS := Lib.hid h
  clear h
  unfold fN
  go_enter Tryz.func103, Tryz.ntmps103
  go_wp2_with fail
  generalize hW : World.alloc (World.alloc w _) _ = W0
  have hb0 : Below w.heap.size w W0 := by rw [← hW]; exact (by repeat (first | (with_reducible exact Below.refl _ _) | (with_reducible assumption) | ((with_reducible refine Below.alloc ?_ ?_ _); rotate_left; focus (first | exact Nat.le_refl _ | omega | (simp; done) | (simp; omega))) | ((with_reducible refine Below.setCell ?_ ?_ _); rotate_left; focus (first | exact Nat.le_refl _ | omega | (simp; done) | (simp; omega))) | (with_reducible refine Below.drew ?_) | (with_reducible refine below_drewN ?_ _) | ((with_reducible refine below_via (by assumption) ?_ ?_); focus (first | exact Nat.le_refl _ | omega | (simp; done) | (simp; omega)))))
  have hs0 : W0.heap.size = w.heap.size + 2 := by rw [← hW]; simp
  have HA : LB W0 w.heap.size (fNc fc) := by
    rw [← hW]
    exact (lb_alloc w (fNc fc) 68).below (Below.alloc (Below.refl _ _) (Nat.le_refl _) _) (by simp [fNc])
  have HB : LB W0 (w.heap.size + 1) (fNc fe) := by
    rw [← hW]
    have := lb_alloc (w.alloc (.cells (fNc fc).toArray 68)) (fNc fe) 68
    rw [show (w.alloc (.cells (fNc fc).toArray 68)).heap.size = w.heap.size + 1 by simp] at this
    exact this
  have hS0 := HS.out.below hb0
  clear hW
  refine (c92f W0).mono ?_
  rintro e w1 ⟨rfl, hb1⟩
  have hbA : Below w.heap.size w w1 := hb0.trans (hb1.mono hb0.size)
  have HA1 := HA.below hb1 HA.lt
  have HB1 := HB.below hb1 HB.lt
  have hS1 := hS0.below hb1
  have hs1 : w.heap.size + 2 ≤ w1.heap.size := by have := hb1.size; omega
  clear HA HB hS0 hb0 hb1 hs0
  have hc130 := Lib.hid (c130 S L 68 (.agg #[.string ⟨#[]⟩, .float .f64 (bt false), .string ⟨#[]⟩, .slice none 0 0, .slice none 0 0, .bool true, .string ⟨#[]⟩, .int .u8 1, .pointer none, .pointer none]) w1 hS1)
  have hLlt := HS.out.dl.lt
  go_wp2_with fail
  refine hc130.out.mono ?_
  rintro e w2 ⟨b, rfl, hbb, hst, hb2, hkeep⟩
  have a7 : w2.cell? ⟨w.heap.size, 7, none⟩ = some (.int .u8 1) := (hkeep _ _ HA1.lt (by omega)).trans (HA1.c 7 _ rfl)
  have b7 : w2.cell? ⟨w.heap.size + 1, 7, none⟩ = some (.int .u8 1) := (hkeep _ _ HB1.lt (by omega)).trans (HB1.c 7 _ rfl)
  have hbZ : Below L w w2 := (hbA.mono (by omega)).trans hb2
  have HST := Lib.hid hst
  clear hkeep hst HA1 HB1 hS1 hbA hb2 hc130
  go_wp2_with fail
  go_ret
  exact ⟨b, rfl, by omega, HST.out, hbZ⟩
set_option maxRecDepth 100000 in
set_option maxHeartbeats 2000000 in
theorem c104_lt (fc fe S L : Nat) (w : World) (h : ST0 w S L) (o : FloatKind.f64.format.order fe fc = some Ordering.lt) :
    Calls Tryz.prog 104 #[fN fc, fN fe, .pointer (some ⟨S, 0, none⟩)] w (Calc w S L true) := by
  have HS := Lib.hid h
  clear h
  unfold fN
  go_enter Tryz.func104, Tryz.ntmps104
  go_wp2_with fail
  generalize hW : World.alloc (World.alloc w _) _ = W0
  have hb0 : Below w.heap.size w W0 := by rw [← hW]; exact (by repeat (first | (with_reducible exact Below.refl _ _) | (with_reducible assumption) | ((with_reducible refine Below.alloc ?_ ?_ _); rotate_left; focus (first | exact Nat.le_refl _ | omega | (simp; done) | (simp; omega))) | ((with_reducible refine Below.setCell ?_ ?_ _); rotate_left; focus (first | exact Nat.le_refl _ | omega | (simp; done) | (simp; omega))) | (with_reducible refine Below.drew ?_) | (with_reducible refine below_drewN ?_ _) | ((with_reducible refine below_via (by assumption) ?_ ?_); focus (first | exact Nat.le_refl _ | omega | (simp; done) | (simp; omega)))))
  have hs0 : W0.heap.size = w.heap.size + 2 := by rw [← hW]; simp
  have HA : LB W0 w.heap.size (fNc fc) := by
    rw [← hW]
    exact (lb_alloc w (fNc fc) 68).below (Below.alloc (Below.refl _ _) (Nat.le_refl _) _) (by simp [fNc])
  have HB : LB W0 (w.heap.size + 1) (fNc fe) := by
    rw [← hW]
    have := lb_alloc (w.alloc (.cells (fNc fc).toArray 68)) (fNc fe) 68
    rw [show (w.alloc (.cells (fNc fc).toArray 68)).heap.size = w.heap.size + 1 by simp] at this
    exact this
  have hS0 := HS.out.below hb0
  clear hW
  refine (c92t W0).mono ?_
  rintro e w1 ⟨rfl, hb1⟩
  have hbA : Below w.heap.size w w1 := hb0.trans (hb1.mono hb0.size)
  have HA1 := HA.below hb1 HA.lt
  have HB1 := HB.below hb1 HB.lt
  have hS1 := hS0.below hb1
  have hs1 : w.heap.size + 2 ≤ w1.heap.size := by have := hb1.size; omega
  clear HA HB hS0 hb0 hb1 hs0
  have hc130 := Lib.hid (c130 S L 68 (.agg #[.string ⟨#[]⟩, .float .f64 (bt true), .string ⟨#[]⟩, .slice none 0 0, .slice none 0 0, .bool true, .string ⟨#[]⟩, .int .u8 1, .pointer none, .pointer none]) w1 hS1)
  have hLlt := HS.out.dl.lt
  go_wp2_with fail
  refine hc130.out.mono ?_
  rintro e w2 ⟨b, rfl, hbb, hst, hb2, hkeep⟩
  have a7 : w2.cell? ⟨w.heap.size, 7, none⟩ = some (.int .u8 1) := (hkeep _ _ HA1.lt (by omega)).trans (HA1.c 7 _ rfl)
  have b7 : w2.cell? ⟨w.heap.size + 1, 7, none⟩ = some (.int .u8 1) := (hkeep _ _ HB1.lt (by omega)).trans (HB1.c 7 _ rfl)
  have hbZ : Below L w w2 := (hbA.mono (by omega)).trans hb2
  have HST := Lib.hid hst
  clear hkeep hst HA1 HB1 hS1 hbA hb2 hc130
  go_wp2_with fail
  go_ret
  exact ⟨b, rfl, by omega, HST.out, hbZ⟩
set_option maxRecDepth 100000 in
set_option maxHeartbeats 2000000 in
theorem c104_eq (fc fe S L : Nat) (w : World) (h : ST0 w S L) (o : FloatKind.f64.format.order fe fc = some Ordering.eq) :
    Calls Tryz.prog 104 #[fN fc, fN fe, .pointer (some ⟨S, 0, none⟩)] w (Calc w S L true) := by
  have HS := Lib.hid h
  clear h
  unfold fN
  go_enter Tryz.func104, Tryz.ntmps104
  go_wp2_with fail
  generalize hW : World.alloc (World.alloc w _) _ = W0
  have hb0 : Below w.heap.size w W0 := by rw [← hW]; exact (by repeat (first | (with_reducible exact Below.refl _ _) | (with_reducible assumption) | ((with_reducible refine Below.alloc ?_ ?_ _); rotate_left; focus (first | exact Nat.le_refl _ | omega | (simp; done) | (simp; omega))) | ((with_reducible refine Below.setCell ?_ ?_ _); rotate_left; focus (first | exact Nat.le_refl _ | omega | (simp; done) | (simp; omega))) | (with_reducible refine Below.drew ?_) | (with_reducible refine below_drewN ?_ _) | ((with_reducible refine below_via (by assumption) ?_ ?_); focus (first | exact Nat.le_refl _ | omega | (simp; done) | (simp; omega)))))
  have hs0 : W0.heap.size = w.heap.size + 2 := by rw [← hW]; simp
  have HA : LB W0 w.heap.size (fNc fc) := by
    rw [← hW]
    exact (lb_alloc w (fNc fc) 68).below (Below.alloc (Below.refl _ _) (Nat.le_refl _) _) (by simp [fNc])
  have HB : LB W0 (w.heap.size + 1) (fNc fe) := by
    rw [← hW]
    have := lb_alloc (w.alloc (.cells (fNc fc).toArray 68)) (fNc fe) 68
    rw [show (w.alloc (.cells (fNc fc).toArray 68)).heap.size = w.heap.size + 1 by simp] at this
    exact this
  have hS0 := HS.out.below hb0
  clear hW
  refine (c92t W0).mono ?_
  rintro e w1 ⟨rfl, hb1⟩
  have hbA : Below w.heap.size w w1 := hb0.trans (hb1.mono hb0.size)
  have HA1 := HA.below hb1 HA.lt
  have HB1 := HB.below hb1 HB.lt
  have hS1 := hS0.below hb1
  have hs1 : w.heap.size + 2 ≤ w1.heap.size := by have := hb1.size; omega
  clear HA HB hS0 hb0 hb1 hs0
  have hc130 := Lib.hid (c130 S L 68 (.agg #[.string ⟨#[]⟩, .float .f64 (bt true), .string ⟨#[]⟩, .slice none 0 0, .slice none 0 0, .bool true, .string ⟨#[]⟩, .int .u8 1, .pointer none, .pointer none]) w1 hS1)
  have hLlt := HS.out.dl.lt
  go_wp2_with fail
  refine hc130.out.mono ?_
  rintro e w2 ⟨b, rfl, hbb, hst, hb2, hkeep⟩
  have a7 : w2.cell? ⟨w.heap.size, 7, none⟩ = some (.int .u8 1) := (hkeep _ _ HA1.lt (by omega)).trans (HA1.c 7 _ rfl)
  have b7 : w2.cell? ⟨w.heap.size + 1, 7, none⟩ = some (.int .u8 1) := (hkeep _ _ HB1.lt (by omega)).trans (HB1.c 7 _ rfl)
  have hbZ : Below L w w2 := (hbA.mono (by omega)).trans hb2
  have HST := Lib.hid hst
  clear hkeep hst HA1 HB1 hS1 hbA hb2 hc130
  go_wp2_with fail
  go_ret
  exact ⟨b, rfl, by omega, HST.out, hbZ⟩
set_option maxRecDepth 100000 in
set_option maxHeartbeats 2000000 in
theorem c104_gt (fc fe S L : Nat) (w : World) (h : ST0 w S L) (o : FloatKind.f64.format.order fe fc = some Ordering.gt) :
    Calls Tryz.prog 104 #[fN fc, fN fe, .pointer (some ⟨S, 0, none⟩)] w (Calc w S L false) := by
  have HS := Lib.hid h
  clear h
  unfold fN
  go_enter Tryz.func104, Tryz.ntmps104
  go_wp2_with fail
  generalize hW : World.alloc (World.alloc w _) _ = W0
  have hb0 : Below w.heap.size w W0 := by rw [← hW]; exact (by repeat (first | (with_reducible exact Below.refl _ _) | (with_reducible assumption) | ((with_reducible refine Below.alloc ?_ ?_ _); rotate_left; focus (first | exact Nat.le_refl _ | omega | (simp; done) | (simp; omega))) | ((with_reducible refine Below.setCell ?_ ?_ _); rotate_left; focus (first | exact Nat.le_refl _ | omega | (simp; done) | (simp; omega))) | (with_reducible refine Below.drew ?_) | (with_reducible refine below_drewN ?_ _) | ((with_reducible refine below_via (by assumption) ?_ ?_); focus (first | exact Nat.le_refl _ | omega | (simp; done) | (simp; omega)))))
  have hs0 : W0.heap.size = w.heap.size + 2 := by rw [← hW]; simp
  have HA : LB W0 w.heap.size (fNc fc) := by
    rw [← hW]
    exact (lb_alloc w (fNc fc) 68).below (Below.alloc (Below.refl _ _) (Nat.le_refl _) _) (by simp [fNc])
  have HB : LB W0 (w.heap.size + 1) (fNc fe) := by
    rw [← hW]
    have := lb_alloc (w.alloc (.cells (fNc fc).toArray 68)) (fNc fe) 68
    rw [show (w.alloc (.cells (fNc fc).toArray 68)).heap.size = w.heap.size + 1 by simp] at this
    exact this
  have hS0 := HS.out.below hb0
  clear hW
  refine (c92f W0).mono ?_
  rintro e w1 ⟨rfl, hb1⟩
  have hbA : Below w.heap.size w w1 := hb0.trans (hb1.mono hb0.size)
  have HA1 := HA.below hb1 HA.lt
  have HB1 := HB.below hb1 HB.lt
  have hS1 := hS0.below hb1
  have hs1 : w.heap.size + 2 ≤ w1.heap.size := by have := hb1.size; omega
  clear HA HB hS0 hb0 hb1 hs0
  have hc130 := Lib.hid (c130 S L 68 (.agg #[.string ⟨#[]⟩, .float .f64 (bt false), .string ⟨#[]⟩, .slice none 0 0, .slice none 0 0, .bool true, .string ⟨#[]⟩, .int .u8 1, .pointer none, .pointer none]) w1 hS1)
  have hLlt := HS.out.dl.lt
  go_wp2_with fail
  refine hc130.out.mono ?_
  rintro e w2 ⟨b, rfl, hbb, hst, hb2, hkeep⟩
  have a7 : w2.cell? ⟨w.heap.size, 7, none⟩ = some (.int .u8 1) := (hkeep _ _ HA1.lt (by omega)).trans (HA1.c 7 _ rfl)
  have b7 : w2.cell? ⟨w.heap.size + 1, 7, none⟩ = some (.int .u8 1) := (hkeep _ _ HB1.lt (by omega)).trans (HB1.c 7 _ rfl)
  have hbZ : Below L w w2 := (hbA.mono (by omega)).trans hb2
  have HST := Lib.hid hst
  clear hkeep hst HA1 HB1 hS1 hbA hb2 hc130
  go_wp2_with fail
  go_ret
  exact ⟨b, rfl, by omega, HST.out, hbZ⟩
set_option maxRecDepth 100000 in
set_option maxHeartbeats 2000000 in
theorem c105_lt (fc fe S L : Nat) (w : World) (h : ST0 w S L) (o : FloatKind.f64.format.order fe fc = some Ordering.lt) :
    Calls Tryz.prog 105 #[fN fc, fN fe, .pointer (some ⟨S, 0, none⟩)] w (Calc w S L false) := by
  have HS := Lib.hid h
  clear h
  unfold fN
  go_enter Tryz.func105, Tryz.ntmps105
  go_wp2_with fail
  generalize hW : World.alloc (World.alloc w _) _ = W0
  have hb0 : Below w.heap.size w W0 := by rw [← hW]; exact (by repeat (first | (with_reducible exact Below.refl _ _) | (with_reducible assumption) | ((with_reducible refine Below.alloc ?_ ?_ _); rotate_left; focus (first | exact Nat.le_refl _ | omega | (simp; done) | (simp; omega))) | ((with_reducible refine Below.setCell ?_ ?_ _); rotate_left; focus (first | exact Nat.le_refl _ | omega | (simp; done) | (simp; omega))) | (with_reducible refine Below.drew ?_) | (with_reducible refine below_drewN ?_ _) | ((with_reducible refine below_via (by assumption) ?_ ?_); focus (first | exact Nat.le_refl _ | omega | (simp; done) | (simp; omega)))))
  have hs0 : W0.heap.size = w.heap.size + 2 := by rw [← hW]; simp
  have HA : LB W0 w.heap.size (fNc fc) := by
    rw [← hW]
    exact (lb_alloc w (fNc fc) 68).below (Below.alloc (Below.refl _ _) (Nat.le_refl _) _) (by simp [fNc])
  have HB : LB W0 (w.heap.size + 1) (fNc fe) := by
    rw [← hW]
    have := lb_alloc (w.alloc (.cells (fNc fc).toArray 68)) (fNc fe) 68
    rw [show (w.alloc (.cells (fNc fc).toArray 68)).heap.size = w.heap.size + 1 by simp] at this
    exact this
  have hS0 := HS.out.below hb0
  clear hW
  refine (c92f W0).mono ?_
  rintro e w1 ⟨rfl, hb1⟩
  have hbA : Below w.heap.size w w1 := hb0.trans (hb1.mono hb0.size)
  have HA1 := HA.below hb1 HA.lt
  have HB1 := HB.below hb1 HB.lt
  have hS1 := hS0.below hb1
  have hs1 : w.heap.size + 2 ≤ w1.heap.size := by have := hb1.size; omega
  clear HA HB hS0 hb0 hb1 hs0
  have hc130 := Lib.hid (c130 S L 68 (.agg #[.string ⟨#[]⟩, .float .f64 (bt false), .string ⟨#[]⟩, .slice none 0 0, .slice none 0 0, .bool true, .string ⟨#[]⟩, .int .u8 1, .pointer none, .pointer none]) w1 hS1)
  have hLlt := HS.out.dl.lt
  go_wp2_with fail
  refine hc130.out.mono ?_
  rintro e w2 ⟨b, rfl, hbb, hst, hb2, hkeep⟩
  have a7 : w2.cell? ⟨w.heap.size, 7, none⟩ = some (.int .u8 1) := (hkeep _ _ HA1.lt (by omega)).trans (HA1.c 7 _ rfl)
  have b7 : w2.cell? ⟨w.heap.size + 1, 7, none⟩ = some (.int .u8 1) := (hkeep _ _ HB1.lt (by omega)).trans (HB1.c 7 _ rfl)
  have hbZ : Below L w w2 := (hbA.mono (by omega)).trans hb2
  have HST := Lib.hid hst
  clear hkeep hst HA1 HB1 hS1 hbA hb2 hc130
  go_wp2_with fail
  go_ret
  exact ⟨b, rfl, by omega, HST.out, hbZ⟩
set_option maxRecDepth 100000 in
set_option maxHeartbeats 2000000 in
theorem c105_eq (fc fe S L : Nat) (w : World) (h : ST0 w S L) (o : FloatKind.f64.format.order fe fc = some Ordering.eq) :
    Calls Tryz.prog 105 #[fN fc, fN fe, .pointer (some ⟨S, 0, none⟩)] w (Calc w S L false) := by
  have HS := Lib.hid h
  clear h
  unfold fN
  go_enter Tryz.func105, Tryz.ntmps105
  go_wp2_with fail
  generalize hW : World.alloc (World.alloc w _) _ = W0
  have hb0 : Below w.heap.size w W0 := by rw [← hW]; exact (by repeat (first | (with_reducible exact Below.refl _ _) | (with_reducible assumption) | ((with_reducible refine Below.alloc ?_ ?_ _); rotate_left; focus (first | exact Nat.le_refl _ | omega | (simp; done) | (simp; omega))) | ((with_reducible refine Below.setCell ?_ ?_ _); rotate_left; focus (first | exact Nat.le_refl _ | omega | (simp; done) | (simp; omega))) | (with_reducible refine Below.drew ?_) | (with_reducible refine below_drewN ?_ _) | ((with_reducible refine below_via (by assumption) ?_ ?_); focus (first | exact Nat.le_refl _ | omega | (simp; done) | (simp; omega)))))
  have hs0 : W0.heap.size = w.heap.size + 2 := by rw [← hW]; simp
  have HA : LB W0 w.heap.size (fNc fc) := by
    rw [← hW]
    exact (lb_alloc w (fNc fc) 68).below (Below.alloc (Below.refl _ _) (Nat.le_refl _) _) (by simp [fNc])
  have HB : LB W0 (w.heap.size + 1) (fNc fe) := by
    rw [← hW]
    have := lb_alloc (w.alloc (.cells (fNc fc).toArray 68)) (fNc fe) 68
    rw [show (w.alloc (.cells (fNc fc).toArray 68)).heap.size = w.heap.size + 1 by simp] at this
    exact this
  have hS0 := HS.out.below hb0
  clear hW
  refine (c92f W0).mono ?_
  rintro e w1 ⟨rfl, hb1⟩
  have hbA : Below w.heap.size w w1 := hb0.trans (hb1.mono hb0.size)
  have HA1 := HA.below hb1 HA.lt
  have HB1 := HB.below hb1 HB.lt
  have hS1 := hS0.below hb1
  have hs1 : w.heap.size + 2 ≤ w1.heap.size := by have := hb1.size; omega
  clear HA HB hS0 hb0 hb1 hs0
  have hc130 := Lib.hid (c130 S L 68 (.agg #[.string ⟨#[]⟩, .float .f64 (bt false), .string ⟨#[]⟩, .slice none 0 0, .slice none 0 0, .bool true, .string ⟨#[]⟩, .int .u8 1, .pointer none, .pointer none]) w1 hS1)
  have hLlt := HS.out.dl.lt
  go_wp2_with fail
  refine hc130.out.mono ?_
  rintro e w2 ⟨b, rfl, hbb, hst, hb2, hkeep⟩
  have a7 : w2.cell? ⟨w.heap.size, 7, none⟩ = some (.int .u8 1) := (hkeep _ _ HA1.lt (by omega)).trans (HA1.c 7 _ rfl)
  have b7 : w2.cell? ⟨w.heap.size + 1, 7, none⟩ = some (.int .u8 1) := (hkeep _ _ HB1.lt (by omega)).trans (HB1.c 7 _ rfl)
  have hbZ : Below L w w2 := (hbA.mono (by omega)).trans hb2
  have HST := Lib.hid hst
  clear hkeep hst HA1 HB1 hS1 hbA hb2 hc130
  go_wp2_with fail
  go_ret
  exact ⟨b, rfl, by omega, HST.out, hbZ⟩
set_option maxRecDepth 100000 in
set_option maxHeartbeats 2000000 in
theorem c105_gt (fc fe S L : Nat) (w : World) (h : ST0 w S L) (o : FloatKind.f64.format.order fe fc = some Ordering.gt) :
    Calls Tryz.prog 105 #[fN fc, fN fe, .pointer (some ⟨S, 0, none⟩)] w (Calc w S L true) := by
  have HS := Lib.hid h
  clear h
  unfold fN
  go_enter Tryz.func105, Tryz.ntmps105
  go_wp2_with fail
  generalize hW : World.alloc (World.alloc w _) _ = W0
  have hb0 : Below w.heap.size w W0 := by rw [← hW]; exact (by repeat (first | (with_reducible exact Below.refl _ _) | (with_reducible assumption) | ((with_reducible refine Below.alloc ?_ ?_ _); rotate_left; focus (first | exact Nat.le_refl _ | omega | (simp; done) | (simp; omega))) | ((with_reducible refine Below.setCell ?_ ?_ _); rotate_left; focus (first | exact Nat.le_refl _ | omega | (simp; done) | (simp; omega))) | (with_reducible refine Below.drew ?_) | (with_reducible refine below_drewN ?_ _) | ((with_reducible refine below_via (by assumption) ?_ ?_); focus (first | exact Nat.le_refl _ | omega | (simp; done) | (simp; omega)))))
  have hs0 : W0.heap.size = w.heap.size + 2 := by rw [← hW]; simp
  have HA : LB W0 w.heap.size (fNc fc) := by
    rw [← hW]
    exact (lb_alloc w (fNc fc) 68).below (Below.alloc (Below.refl _ _) (Nat.le_refl _) _) (by simp [fNc])
  have HB : LB W0 (w.heap.size + 1) (fNc fe) := by
    rw [← hW]
    have := lb_alloc (w.alloc (.cells (fNc fc).toArray 68)) (fNc fe) 68
    rw [show (w.alloc (.cells (fNc fc).toArray 68)).heap.size = w.heap.size + 1 by simp] at this
    exact this
  have hS0 := HS.out.below hb0
  clear hW
  refine (c92t W0).mono ?_
  rintro e w1 ⟨rfl, hb1⟩
  have hbA : Below w.heap.size w w1 := hb0.trans (hb1.mono hb0.size)
  have HA1 := HA.below hb1 HA.lt
  have HB1 := HB.below hb1 HB.lt
  have hS1 := hS0.below hb1
  have hs1 : w.heap.size + 2 ≤ w1.heap.size := by have := hb1.size; omega
  clear HA HB hS0 hb0 hb1 hs0
  have hc130 := Lib.hid (c130 S L 68 (.agg #[.string ⟨#[]⟩, .float .f64 (bt true), .string ⟨#[]⟩, .slice none 0 0, .slice none 0 0, .bool true, .string ⟨#[]⟩, .int .u8 1, .pointer none, .pointer none]) w1 hS1)
  have hLlt := HS.out.dl.lt
  go_wp2_with fail
  refine hc130.out.mono ?_
  rintro e w2 ⟨b, rfl, hbb, hst, hb2, hkeep⟩
  have a7 : w2.cell? ⟨w.heap.size, 7, none⟩ = some (.int .u8 1) := (hkeep _ _ HA1.lt (by omega)).trans (HA1.c 7 _ rfl)
  have b7 : w2.cell? ⟨w.heap.size + 1, 7, none⟩ = some (.int .u8 1) := (hkeep _ _ HB1.lt (by omega)).trans (HB1.c 7 _ rfl)
  have hbZ : Below L w w2 := (hbA.mono (by omega)).trans hb2
  have HST := Lib.hid hst
  clear hkeep hst HA1 HB1 hS1 hbA hb2 hc130
  go_wp2_with fail
  go_ret
  exact ⟨b, rfl, by omega, HST.out, hbZ⟩
set_option maxRecDepth 100000 in
set_option maxHeartbeats 2000000 in
theorem c106_lt (fc fe S L : Nat) (w : World) (h : ST0 w S L) (o : FloatKind.f64.format.order fe fc = some Ordering.lt) :
    Calls Tryz.prog 106 #[fN fc, fN fe, .pointer (some ⟨S, 0, none⟩)] w (Calc w S L false) := by
  have HS := Lib.hid h
  clear h
  unfold fN
  go_enter Tryz.func106, Tryz.ntmps106
  go_wp2_with fail
  generalize hW : World.alloc (World.alloc w _) _ = W0
  have hb0 : Below w.heap.size w W0 := by rw [← hW]; exact (by repeat (first | (with_reducible exact Below.refl _ _) | (with_reducible assumption) | ((with_reducible refine Below.alloc ?_ ?_ _); rotate_left; focus (first | exact Nat.le_refl _ | omega | (simp; done) | (simp; omega))) | ((with_reducible refine Below.setCell ?_ ?_ _); rotate_left; focus (first | exact Nat.le_refl _ | omega | (simp; done) | (simp; omega))) | (with_reducible refine Below.drew ?_) | (with_reducible refine below_drewN ?_ _) | ((with_reducible refine below_via (by assumption) ?_ ?_); focus (first | exact Nat.le_refl _ | omega | (simp; done) | (simp; omega)))))
  have hs0 : W0.heap.size = w.heap.size + 2 := by rw [← hW]; simp
  have HA : LB W0 w.heap.size (fNc fc) := by
    rw [← hW]
    exact (lb_alloc w (fNc fc) 68).below (Below.alloc (Below.refl _ _) (Nat.le_refl _) _) (by simp [fNc])
  have HB : LB W0 (w.heap.size + 1) (fNc fe) := by
    rw [← hW]
    have := lb_alloc (w.alloc (.cells (fNc fc).toArray 68)) (fNc fe) 68
    rw [show (w.alloc (.cells (fNc fc).toArray 68)).heap.size = w.heap.size + 1 by simp] at this
    exact this
  have hS0 := HS.out.below hb0
  clear hW
  refine (c92f W0).mono ?_
  rintro e w1 ⟨rfl, hb1⟩
  have hbA : Below w.heap.size w w1 := hb0.trans (hb1.mono hb0.size)
  have HA1 := HA.below hb1 HA.lt
  have HB1 := HB.below hb1 HB.lt
  have hS1 := hS0.below hb1
  have hs1 : w.heap.size + 2 ≤ w1.heap.size := by have := hb1.size; omega
  clear HA HB hS0 hb0 hb1 hs0
  have hc130 := Lib.hid (c130 S L 68 (.agg #[.string ⟨#[]⟩, .float .f64 (bt false), .string ⟨#[]⟩, .slice none 0 0, .slice none 0 0, .bool true, .string ⟨#[]⟩, .int .u8 1, .pointer none, .pointer none]) w1 hS1)
  have hLlt := HS.out.dl.lt
  go_wp2_with fail
  refine hc130.out.mono ?_
  rintro e w2 ⟨b, rfl, hbb, hst, hb2, hkeep⟩
  have a7 : w2.cell? ⟨w.heap.size, 7, none⟩ = some (.int .u8 1) := (hkeep _ _ HA1.lt (by omega)).trans (HA1.c 7 _ rfl)
  have b7 : w2.cell? ⟨w.heap.size + 1, 7, none⟩ = some (.int .u8 1) := (hkeep _ _ HB1.lt (by omega)).trans (HB1.c 7 _ rfl)
  have hbZ : Below L w w2 := (hbA.mono (by omega)).trans hb2
  have HST := Lib.hid hst
  clear hkeep hst HA1 HB1 hS1 hbA hb2 hc130
  go_wp2_with fail
  go_ret
  exact ⟨b, rfl, by omega, HST.out, hbZ⟩
set_option maxRecDepth 100000 in
set_option maxHeartbeats 2000000 in
theorem c106_eq (fc fe S L : Nat) (w : World) (h : ST0 w S L) (o : FloatKind.f64.format.order fe fc = some Ordering.eq) :
    Calls Tryz.prog 106 #[fN fc, fN fe, .pointer (some ⟨S, 0, none⟩)] w (Calc w S L true) := by
  have HS := Lib.hid h
  clear h
  unfold fN
  go_enter Tryz.func106, Tryz.ntmps106
  go_wp2_with fail
  generalize hW : World.alloc (World.alloc w _) _ = W0
  have hb0 : Below w.heap.size w W0 := by rw [← hW]; exact (by repeat (first | (with_reducible exact Below.refl _ _) | (with_reducible assumption) | ((with_reducible refine Below.alloc ?_ ?_ _); rotate_left; focus (first | exact Nat.le_refl _ | omega | (simp; done) | (simp; omega))) | ((with_reducible refine Below.setCell ?_ ?_ _); rotate_left; focus (first | exact Nat.le_refl _ | omega | (simp; done) | (simp; omega))) | (with_reducible refine Below.drew ?_) | (with_reducible refine below_drewN ?_ _) | ((with_reducible refine below_via (by assumption) ?_ ?_); focus (first | exact Nat.le_refl _ | omega | (simp; done) | (simp; omega)))))
  have hs0 : W0.heap.size = w.heap.size + 2 := by rw [← hW]; simp
  have HA : LB W0 w.heap.size (fNc fc) := by
    rw [← hW]
    exact (lb_alloc w (fNc fc) 68).below (Below.alloc (Below.refl _ _) (Nat.le_refl _) _) (by simp [fNc])
  have HB : LB W0 (w.heap.size + 1) (fNc fe) := by
    rw [← hW]
    have := lb_alloc (w.alloc (.cells (fNc fc).toArray 68)) (fNc fe) 68
    rw [show (w.alloc (.cells (fNc fc).toArray 68)).heap.size = w.heap.size + 1 by simp] at this
    exact this
  have hS0 := HS.out.below hb0
  clear hW
  refine (c92t W0).mono ?_
  rintro e w1 ⟨rfl, hb1⟩
  have hbA : Below w.heap.size w w1 := hb0.trans (hb1.mono hb0.size)
  have HA1 := HA.below hb1 HA.lt
  have HB1 := HB.below hb1 HB.lt
  have hS1 := hS0.below hb1
  have hs1 : w.heap.size + 2 ≤ w1.heap.size := by have := hb1.size; omega
  clear HA HB hS0 hb0 hb1 hs0
  have hc130 := Lib.hid (c130 S L 68 (.agg #[.string ⟨#[]⟩, .float .f64 (bt true), .string ⟨#[]⟩, .slice none 0 0, .slice none 0 0, .bool true, .string ⟨#[]⟩, .int .u8 1, .pointer none, .pointer none]) w1 hS1)
  have hLlt := HS.out.dl.lt
  go_wp2_with fail
  refine hc130.out.mono ?_
  rintro e w2 ⟨b, rfl, hbb, hst, hb2, hkeep⟩
  have a7 : w2.cell? ⟨w.heap.size, 7, none⟩ = some (.int .u8 1) := (hkeep _ _ HA1.lt (by omega)).trans (HA1.c 7 _ rfl)
  have b7 : w2.cell? ⟨w.heap.size + 1, 7, none⟩ = some (.int .u8 1) := (hkeep _ _ HB1.lt (by omega)).trans (HB1.c 7 _ rfl)
  have hbZ : Below L w w2 := (hbA.mono (by omega)).trans hb2
  have HST := Lib.hid hst
  clear hkeep hst HA1 HB1 hS1 hbA hb2 hc130
  go_wp2_with fail
  go_ret
  exact ⟨b, rfl, by omega, HST.out, hbZ⟩
set_option maxRecDepth 100000 in
set_option maxHeartbeats 2000000 in
theorem c106_gt (fc fe S L : Nat) (w : World) (h : ST0 w S L) (o : FloatKind.f64.format.order fe fc = some Ordering.gt) :
    Calls Tryz.prog 106 #[fN fc, fN fe, .pointer (some ⟨S, 0, none⟩)] w (Calc w S L true) := by
  have HS := Lib.hid h
  clear h
  unfold fN
  go_enter Tryz.func106, Tryz.ntmps106
  go_wp2_with fail
  generalize hW : World.alloc (World.alloc w _) _ = W0
  have hb0 : Below w.heap.size w W0 := by rw [← hW]; exact (by repeat (first | (with_reducible exact Below.refl _ _) | (with_reducible assumption) | ((with_reducible refine Below.alloc ?_ ?_ _); rotate_left; focus (first | exact Nat.le_refl _ | omega | (simp; done) | (simp; omega))) | ((with_reducible refine Below.setCell ?_ ?_ _); rotate_left; focus (first | exact Nat.le_refl _ | omega | (simp; done) | (simp; omega))) | (with_reducible refine Below.drew ?_) | (with_reducible refine below_drewN ?_ _) | ((with_reducible refine below_via (by assumption) ?_ ?_); focus (first | exact Nat.le_refl _ | omega | (simp; done) | (simp; omega)))))
  have hs0 : W0.heap.size = w.heap.size + 2 := by rw [← hW]; simp
  have HA : LB W0 w.heap.size (fNc fc) := by
    rw [← hW]
    exact (lb_alloc w (fNc fc) 68).below (Below.alloc (Below.refl _ _) (Nat.le_refl _) _) (by simp [fNc])
  have HB : LB W0 (w.heap.size + 1) (fNc fe) := by
    rw [← hW]
    have := lb_alloc (w.alloc (.cells (fNc fc).toArray 68)) (fNc fe) 68
    rw [show (w.alloc (.cells (fNc fc).toArray 68)).heap.size = w.heap.size + 1 by simp] at this
    exact this
  have hS0 := HS.out.below hb0
  clear hW
  refine (c92t W0).mono ?_
  rintro e w1 ⟨rfl, hb1⟩
  have hbA : Below w.heap.size w w1 := hb0.trans (hb1.mono hb0.size)
  have HA1 := HA.below hb1 HA.lt
  have HB1 := HB.below hb1 HB.lt
  have hS1 := hS0.below hb1
  have hs1 : w.heap.size + 2 ≤ w1.heap.size := by have := hb1.size; omega
  clear HA HB hS0 hb0 hb1 hs0
  have hc130 := Lib.hid (c130 S L 68 (.agg #[.string ⟨#[]⟩, .float .f64 (bt true), .string ⟨#[]⟩, .slice none 0 0, .slice none 0 0, .bool true, .string ⟨#[]⟩, .int .u8 1, .pointer none, .pointer none]) w1 hS1)
  have hLlt := HS.out.dl.lt
  go_wp2_with fail
  refine hc130.out.mono ?_
  rintro e w2 ⟨b, rfl, hbb, hst, hb2, hkeep⟩
  have a7 : w2.cell? ⟨w.heap.size, 7, none⟩ = some (.int .u8 1) := (hkeep _ _ HA1.lt (by omega)).trans (HA1.c 7 _ rfl)
  have b7 : w2.cell? ⟨w.heap.size + 1, 7, none⟩ = some (.int .u8 1) := (hkeep _ _ HB1.lt (by omega)).trans (HB1.c 7 _ rfl)
  have hbZ : Below L w w2 := (hbA.mono (by omega)).trans hb2
  have HST := Lib.hid hst
  clear hkeep hst HA1 HB1 hS1 hbA hb2 hc130
  go_wp2_with fail
  go_ret
  exact ⟨b, rfl, by omega, HST.out, hbZ⟩
end Go.Proofs.YtkhgaenffnoimaaGreatDoor
