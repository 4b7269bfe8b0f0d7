/- formulaCriteriaEval (printed by geneval.py). -/
import Derived.Test.YtkhgaenffnoimaaGreatDoorKM
import Derived.MapKept
set_option linter.unusedSimpArgs false
set_option linter.unusedVariables false
namespace Go.Proofs.YtkhgaenffnoimaaGreatDoor
open Go.RowKit FL Go.MapKept
attribute [local go_sem] run_store_float as64
theorem push_setK {α : Type} (a : Array α) (x y : α) : (a.push x).setIfInBounds a.size y = a.push y := by
  apply Array.ext
  · simp
  · intro i h1 h2
    have h3 : i < a.size + 1 := by simpa using h2
    rw [Array.getElem_setIfInBounds (by simpa using h3), Array.getElem_push, Array.getElem_push]
    by_cases h : a.size = i
    · subst h
      simp
    · rw [if_neg h, dif_pos (by omega), dif_pos (by omega)]
theorem under138 : Tryz.prog.underlying 138 = some (.map 5 137) := by kernel_rfl
theorem insK (W : World) (B : Nat) (es : Array MapEntry) (clock : Nat) (s : Int) (v : Value) (hB : B = W.heap.size)
    (hf : Instr.findNow (.int .u8) (.int .u8 s) es.toList 0 = some none) :
    (Instr.mapUpdate 138 (.map (some B)) (.int .u8 s) v).run Tryz.prog (W.alloc (.map es clock)) = .ok () (W.alloc (.map (es.push { key := .int .u8 s, val := v, born := clock }) (clock + 1))) := by
  subst hB
  have hb : (W.alloc (.map es clock)).heap[W.heap.size]? = some (.map es clock) := heap_alloc_new W _
  have h1 := run_findKey (P := Tryz.prog) (w := W.alloc (.map es clock)) Tryz.underlying5 hf
  have h2 := run_checkKey (P := Tryz.prog) (w := W.alloc (.map es clock)) Tryz.underlying5 (k := .int .u8 s) (by simp [IsKey]) false 9999
  have h3 := Go.MapKept.run_setObj_map (P := Tryz.prog) (.map (es.push { key := .int .u8 s, val := v, born := clock }) (clock + 1)) hb
  have h4 := Go.MapKept.run_getObj_map (P := Tryz.prog) hb
  unfold Instr.mapUpdate
  simp [run_underlying under138, Result.andThen, h1, h2, h3, h4]
  unfold World.alloc
  simp [push_setK]
theorem lookK (W : World) (B : Nat) (es : Array MapEntry) (clock : Nat) (s : Int) (i : Nat) (v : Value) (hb : W.heap[B]? = some (.map es clock))
    (hf : Instr.findNow (.int .u8) (.int .u8 s) es.toList 0 = some (some (i, v))) :
    (Instr.lookup 138 (.map (some B)) (.int .u8 s) true).run Tryz.prog W = .ok (.tuple #[v, .bool true]) W := by
  have h1 := run_findKey (P := Tryz.prog) (w := W) Tryz.underlying5 hf
  have h2 := run_checkKey (P := Tryz.prog) (w := W) Tryz.underlying5 (k := .int .u8 s) (by simp [IsKey]) es.isEmpty 9999
  have h4 := Go.MapKept.run_getObj_map (P := Tryz.prog) hb
  unfold Instr.lookup
  simp [run_underlying under138, Result.andThen, h1, h2, h4]
/-- The first entries of the table. -/
def mK (k : Nat) : Array MapEntry := ((([{ key := .int .u8 11, val := .func (.func 101) #[] #[], born := 0 }, { key := .int .u8 14, val := .func (.func 102) #[] #[], born := 1 }, { key := .int .u8 15, val := .func (.func 103) #[] #[], born := 2 }, { key := .int .u8 12, val := .func (.func 104) #[] #[], born := 3 }, { key := .int .u8 16, val := .func (.func 105) #[] #[], born := 4 }, { key := .int .u8 13, val := .func (.func 106) #[] #[], born := 5 }] : List MapEntry)).take k).toArray
theorem mkK (W : World) : (Instr.makeMap 138 none).run Tryz.prog W = .ok (.map (some W.heap.size)) (W.alloc (.map (mK 0) 0)) := rfl
theorem inK0 (W : World) (B : Nat) (hB : B = W.heap.size) : (Instr.mapUpdate 138 (.map (some B)) (.int .u8 11) (.func (.func 101) #[] #[])).run Tryz.prog (W.alloc (.map (mK 0) 0)) = .ok () (W.alloc (.map (mK 1) 1)) := insK W B (mK 0) 0 _ _ hB (by kernel_rfl)
theorem inK1 (W : World) (B : Nat) (hB : B = W.heap.size) : (Instr.mapUpdate 138 (.map (some B)) (.int .u8 14) (.func (.func 102) #[] #[])).run Tryz.prog (W.alloc (.map (mK 1) 1)) = .ok () (W.alloc (.map (mK 2) 2)) := insK W B (mK 1) 1 _ _ hB (by kernel_rfl)
theorem inK2 (W : World) (B : Nat) (hB : B = W.heap.size) : (Instr.mapUpdate 138 (.map (some B)) (.int .u8 15) (.func (.func 103) #[] #[])).run Tryz.prog (W.alloc (.map (mK 2) 2)) = .ok () (W.alloc (.map (mK 3) 3)) := insK W B (mK 2) 2 _ _ hB (by kernel_rfl)
theorem inK3 (W : World) (B : Nat) (hB : B = W.heap.size) : (Instr.mapUpdate 138 (.map (some B)) (.int .u8 12) (.func (.func 104) #[] #[])).run Tryz.prog (W.alloc (.map (mK 3) 3)) = .ok () (W.alloc (.map (mK 4) 4)) := insK W B (mK 3) 3 _ _ hB (by kernel_rfl)
theorem inK4 (W : World) (B : Nat) (hB : B = W.heap.size) : (Instr.mapUpdate 138 (.map (some B)) (.int .u8 16) (.func (.func 105) #[] #[])).run Tryz.prog (W.alloc (.map (mK 4) 4)) = .ok () (W.alloc (.map (mK 5) 5)) := insK W B (mK 4) 4 _ _ hB (by kernel_rfl)
theorem inK5 (W : World) (B : Nat) (hB : B = W.heap.size) : (Instr.mapUpdate 138 (.map (some B)) (.int .u8 13) (.func (.func 106) #[] #[])).run Tryz.prog (W.alloc (.map (mK 5) 5)) = .ok () (W.alloc (.map (mK 6) 6)) := insK W B (mK 5) 5 _ _ hB (by kernel_rfl)
attribute [local go_sem] mkK inK0 inK1 inK2 inK3 inK4 inK5
theorem field68 (f : Nat) (W : World) : (Instr.field 68 (.agg #[.string ⟨#[]⟩, .float .f64 f, .string ⟨#[]⟩, .slice none 0 0, .slice none 0 0, .bool true, .string ⟨#[]⟩, .int .u8 1, .pointer none, .pointer none]) 1).run Tryz.prog W = .ok (.float .f64 f) W := by kernel_rfl
attribute [local go_sem] field68
theorem bt_one (r : Bool) : (FloatKind.f64.format.order (bt r) 4607182418800017408 == some Ordering.eq) = r := by cases r <;> decide +kernel
set_option maxRecDepth 100000 in
set_option maxHeartbeats 2000000 in
theorem c75_11 (fe fc g : Nat) (r : Bool) (w : World) (hC : CritC w g 11 fc)
    (hF : ∀ W S L, Below w.heap.size w W → ST0 W S L → Calls Tryz.prog 101 #[fN fc, fN fe, .pointer (some ⟨S, 0, none⟩)] W (Calc W S L r)) :
    Calls Tryz.prog 75 #[fN fe, .pointer (some ⟨g, 0, none⟩)] w (Ret w (.tuple #[.bool r, .nilIface])) := by
  have HC := Lib.hid hC
  have HF := Lib.hid hF
  have hR := bt_one r
  clear hC hF
  unfold fN at *
  go_enter Tryz.func75, Tryz.ntmps75
  go_wp2_with fail
  generalize hW : World.alloc w _ = W0
  have hb0 : Below w.heap.size w W0 := by rw [← hW]; exact (by repeat (first | (with_reducible exact Below.refl _ _) | (with_reducible assumption) | ((with_reducible refine Below.alloc ?_ ?_ _); rotate_left; focus (first | exact Nat.le_refl _ | omega | (simp; done) | (simp; omega))) | ((with_reducible refine Below.setCell ?_ ?_ _); rotate_left; focus (first | exact Nat.le_refl _ | omega | (simp; done) | (simp; omega))) | (with_reducible refine Below.drew ?_) | (with_reducible refine below_drewN ?_ _) | ((with_reducible refine below_via (by assumption) ?_ ?_); focus (first | exact Nat.le_refl _ | omega | (simp; done) | (simp; omega)))))
  have hs0 : W0.heap.size = w.heap.size + 1 := by rw [← hW]; simp
  have HE0 : LB W0 w.heap.size (fNc fe) := by rw [← hW]; exact lb_alloc w (fNc fe) 68
  clear hW
  refine (c100 W0).mono ?_
  rintro e w1 ⟨S, L, rfl, hSg, hLg, hst, hb1⟩
  have HST := Lib.hid hst
  have hbA : Below w.heap.size w w1 := hb0.trans (hb1.mono (by omega))
  have HE1 := Lib.hid (HE0.below hb1 HE0.lt)
  have hs1 := hb1.size
  have HC1 := Lib.hid (HC.out.below hbA HC.out.lt)
  have k0 : w1.cell? ⟨g, 0, none⟩ = some (.int .u8 (11 : Int)) := HC1.out.at0
  have hgl : g < w1.heap.size := HC1.out.lt
  have hLk : (Instr.lookup 138 (.map (some w1.heap.size)) (.int .u8 11) true).run Tryz.prog (w1.alloc (.map (mK 6) 6)) = .ok (.tuple #[.func (.func 101) #[] #[], .bool true]) (w1.alloc (.map (mK 6) 6)) := lookK _ _ (mK 6) 6 11 0 _ (heap_alloc_new w1 _) (by kernel_rfl)
  clear hst HE0
  go_wp2_with fail
  have hbM : Below w1.heap.size w1 (w1.alloc (.map (mK 6) 6)) := (by repeat (first | (with_reducible exact Below.refl _ _) | (with_reducible assumption) | ((with_reducible refine Below.alloc ?_ ?_ _); rotate_left; focus (first | exact Nat.le_refl _ | omega | (simp; done) | (simp; omega))) | ((with_reducible refine Below.setCell ?_ ?_ _); rotate_left; focus (first | exact Nat.le_refl _ | omega | (simp; done) | (simp; omega))) | (with_reducible refine Below.drew ?_) | (with_reducible refine below_drewN ?_ _) | ((with_reducible refine below_via (by assumption) ?_ ?_); focus (first | exact Nat.le_refl _ | omega | (simp; done) | (simp; omega)))))
  have hsM : (w1.alloc (.map (mK 6) 6)).heap.size = w1.heap.size + 1 := by simp
  clear hLk k0
  generalize (w1.alloc (.map (mK 6) 6)) = W2 at hbM hsM ⊢
  have hb2w : Below w.heap.size w W2 := keepS hbM hbA
  have HE2 := Lib.hid (HE1.out.below hbM HE1.out.lt)
  have HC2 := Lib.hid (HC1.out.below hbM hgl)
  have HS2 := Lib.hid (HST.out.below hbM)
  obtain ⟨b0, b1, b2, b3, b4, b5, b6, b7, b8, b9⟩ := cells10 HE2.out.drew
  have a0 : W2.drew.cell? ⟨g, 1, none⟩ = _ := HC2.out.at1 0 _ rfl
  have a1 : W2.drew.cell? ⟨g, 1 + 1, none⟩ = _ := HC2.out.at1 1 _ rfl
  have a2 : W2.drew.cell? ⟨g, 1 + 2, none⟩ = _ := HC2.out.at1 2 _ rfl
  have a3 : W2.drew.cell? ⟨g, 1 + 3, none⟩ = _ := HC2.out.at1 3 _ rfl
  have a4 : W2.drew.cell? ⟨g, 1 + 4, none⟩ = _ := HC2.out.at1 4 _ rfl
  have a5 : W2.drew.cell? ⟨g, 1 + 5, none⟩ = _ := HC2.out.at1 5 _ rfl
  have a6 : W2.drew.cell? ⟨g, 1 + 6, none⟩ = _ := HC2.out.at1 6 _ rfl
  have a7 : W2.drew.cell? ⟨g, 1 + 7, none⟩ = _ := HC2.out.at1 7 _ rfl
  have a8 : W2.drew.cell? ⟨g, 1 + 8, none⟩ = _ := HC2.out.at1 8 _ rfl
  have a9 : W2.drew.cell? ⟨g, 1 + 9, none⟩ = _ := HC2.out.at1 9 _ rfl
  simp only [Nat.reduceAdd] at a1 a2 a3 a4 a5 a6 a7 a8 a9
  have hbd : Below w.heap.size w W2.drew := Below.drew hb2w
  have hsd : W2.drew.heap.size = W2.heap.size := rfl
  have hSd : ST0 W2.drew S L := HS2.out.below (Below.drew (Below.refl _ _))
  go_region_with (go_at_call 101; refine (HF.out W2.drew S L hbd hSd).mono ?_; rintro e w3 ⟨b, rfl, hbb, hst1, hb3⟩; have HST1 := Lib.hid hst1; clear hst1)
  all_goals
    have hb3w : Below w.heap.size w w3 := hbd.trans (hb3.mono (by omega))
    clear a0 a1 a2 a3 a4 a5 a6 a7 a8 a9 b0 b1 b2 b3 b4 b5 b6 b7 b8 b9
    go_wp2_with fail
    refine (c107 S L b _ w3 HST1.out).mono ?_
    rintro e w4 ⟨rfl, rfl⟩
    go_wp2_with fail
    have H108 := Lib.hid (c108 S L b _ w4 HST1.out)
    unfold fB at H108
    refine H108.out.mono ?_
    rintro e w5 ⟨rfl, hb5⟩
    have hb5w : Below w.heap.size w w5 := hb3w.trans (hb5 w.heap.size (by omega) (by omega) (by omega))
    go_wp2_with fail
    (refine bodyPost_ret (v := .tuple #[.bool r, .nilIface]) ?_ rfl ?_; (focus (first | (simp [results, Tryz.results75, go_sem, hc1, hz1]; done) | (simp [results, Tryz.results75, go_sem]; done) | (simp [results, Tryz.results75, go_sem, *]; done))); exact ret_mk hb5w)

set_option maxRecDepth 100000 in
set_option maxHeartbeats 2000000 in
theorem c75_14 (fe fc g : Nat) (r : Bool) (w : World) (hC : CritC w g 14 fc)
    (hF : ∀ W S L, Below w.heap.size w W → ST0 W S L → Calls Tryz.prog 102 #[fN fc, fN fe, .pointer (some ⟨S, 0, none⟩)] W (Calc W S L r)) :
    Calls Tryz.prog 75 #[fN fe, .pointer (some ⟨g, 0, none⟩)] w (Ret w (.tuple #[.bool r, .nilIface])) := by
  have HC := Lib.hid hC
  have HF := Lib.hid hF
  have hR := bt_one r
  clear hC hF
  unfold fN at *
  go_enter Tryz.func75, Tryz.ntmps75
  go_wp2_with fail
  generalize hW : World.alloc w _ = W0
  have hb0 : Below w.heap.size w W0 := by rw [← hW]; exact (by repeat (first | (with_reducible exact Below.refl _ _) | (with_reducible assumption) | ((with_reducible refine Below.alloc ?_ ?_ _); rotate_left; focus (first | exact Nat.le_refl _ | omega | (simp; done) | (simp; omega))) | ((with_reducible refine Below.setCell ?_ ?_ _); rotate_left; focus (first | exact Nat.le_refl _ | omega | (simp; done) | (simp; omega))) | (with_reducible refine Below.drew ?_) | (with_reducible refine below_drewN ?_ _) | ((with_reducible refine below_via (by assumption) ?_ ?_); focus (first | exact Nat.le_refl _ | omega | (simp; done) | (simp; omega)))))
  have hs0 : W0.heap.size = w.heap.size + 1 := by rw [← hW]; simp
  have HE0 : LB W0 w.heap.size (fNc fe) := by rw [← hW]; exact lb_alloc w (fNc fe) 68
  clear hW
  refine (c100 W0).mono ?_
  rintro e w1 ⟨S, L, rfl, hSg, hLg, hst, hb1⟩
  have HST := Lib.hid hst
  have hbA : Below w.heap.size w w1 := hb0.trans (hb1.mono (by omega))
  have HE1 := Lib.hid (HE0.below hb1 HE0.lt)
  have hs1 := hb1.size
  have HC1 := Lib.hid (HC.out.below hbA HC.out.lt)
  have k0 : w1.cell? ⟨g, 0, none⟩ = some (.int .u8 (14 : Int)) := HC1.out.at0
  have hgl : g < w1.heap.size := HC1.out.lt
  have hLk : (Instr.lookup 138 (.map (some w1.heap.size)) (.int .u8 14) true).run Tryz.prog (w1.alloc (.map (mK 6) 6)) = .ok (.tuple #[.func (.func 102) #[] #[], .bool true]) (w1.alloc (.map (mK 6) 6)) := lookK _ _ (mK 6) 6 14 1 _ (heap_alloc_new w1 _) (by kernel_rfl)
  clear hst HE0
  go_wp2_with fail
  have hbM : Below w1.heap.size w1 (w1.alloc (.map (mK 6) 6)) := (by repeat (first | (with_reducible exact Below.refl _ _) | (with_reducible assumption) | ((with_reducible refine Below.alloc ?_ ?_ _); rotate_left; focus (first | exact Nat.le_refl _ | omega | (simp; done) | (simp; omega))) | ((with_reducible refine Below.setCell ?_ ?_ _); rotate_left; focus (first | exact Nat.le_refl _ | omega | (simp; done) | (simp; omega))) | (with_reducible refine Below.drew ?_) | (with_reducible refine below_drewN ?_ _) | ((with_reducible refine below_via (by assumption) ?_ ?_); focus (first | exact Nat.le_refl _ | omega | (simp; done) | (simp; omega)))))
  have hsM : (w1.alloc (.map (mK 6) 6)).heap.size = w1.heap.size + 1 := by simp
  clear hLk k0
  generalize (w1.alloc (.map (mK 6) 6)) = W2 at hbM hsM ⊢
  have hb2w : Below w.heap.size w W2 := keepS hbM hbA
  have HE2 := Lib.hid (HE1.out.below hbM HE1.out.lt)
  have HC2 := Lib.hid (HC1.out.below hbM hgl)
  have HS2 := Lib.hid (HST.out.below hbM)
  obtain ⟨b0, b1, b2, b3, b4, b5, b6, b7, b8, b9⟩ := cells10 HE2.out.drew
  have a0 : W2.drew.cell? ⟨g, 1, none⟩ = _ := HC2.out.at1 0 _ rfl
  have a1 : W2.drew.cell? ⟨g, 1 + 1, none⟩ = _ := HC2.out.at1 1 _ rfl
  have a2 : W2.drew.cell? ⟨g, 1 + 2, none⟩ = _ := HC2.out.at1 2 _ rfl
  have a3 : W2.drew.cell? ⟨g, 1 + 3, none⟩ = _ := HC2.out.at1 3 _ rfl
  have a4 : W2.drew.cell? ⟨g, 1 + 4, none⟩ = _ := HC2.out.at1 4 _ rfl
  have a5 : W2.drew.cell? ⟨g, 1 + 5, none⟩ = _ := HC2.out.at1 5 _ rfl
  have a6 : W2.drew.cell? ⟨g, 1 + 6, none⟩ = _ := HC2.out.at1 6 _ rfl
  have a7 : W2.drew.cell? ⟨g, 1 + 7, none⟩ = _ := HC2.out.at1 7 _ rfl
  have a8 : W2.drew.cell? ⟨g, 1 + 8, none⟩ = _ := HC2.out.at1 8 _ rfl
  have a9 : W2.drew.cell? ⟨g, 1 + 9, none⟩ = _ := HC2.out.at1 9 _ rfl
  simp only [Nat.reduceAdd] at a1 a2 a3 a4 a5 a6 a7 a8 a9
  have hbd : Below w.heap.size w W2.drew := Below.drew hb2w
  have hsd : W2.drew.heap.size = W2.heap.size := rfl
  have hSd : ST0 W2.drew S L := HS2.out.below (Below.drew (Below.refl _ _))
  go_region_with (go_at_call 102; refine (HF.out W2.drew S L hbd hSd).mono ?_; rintro e w3 ⟨b, rfl, hbb, hst1, hb3⟩; have HST1 := Lib.hid hst1; clear hst1)
  all_goals
    have hb3w : Below w.heap.size w w3 := hbd.trans (hb3.mono (by omega))
    clear a0 a1 a2 a3 a4 a5 a6 a7 a8 a9 b0 b1 b2 b3 b4 b5 b6 b7 b8 b9
    go_wp2_with fail
    refine (c107 S L b _ w3 HST1.out).mono ?_
    rintro e w4 ⟨rfl, rfl⟩
    go_wp2_with fail
    have H108 := Lib.hid (c108 S L b _ w4 HST1.out)
    unfold fB at H108
    refine H108.out.mono ?_
    rintro e w5 ⟨rfl, hb5⟩
    have hb5w : Below w.heap.size w w5 := hb3w.trans (hb5 w.heap.size (by omega) (by omega) (by omega))
    go_wp2_with fail
    (refine bodyPost_ret (v := .tuple #[.bool r, .nilIface]) ?_ rfl ?_; (focus (first | (simp [results, Tryz.results75, go_sem, hc1, hz1]; done) | (simp [results, Tryz.results75, go_sem]; done) | (simp [results, Tryz.results75, go_sem, *]; done))); exact ret_mk hb5w)

set_option maxRecDepth 100000 in
set_option maxHeartbeats 2000000 in
theorem c75_15 (fe fc g : Nat) (r : Bool) (w : World) (hC : CritC w g 15 fc)
    (hF : ∀ W S L, Below w.heap.size w W → ST0 W S L → Calls Tryz.prog 103 #[fN fc, fN fe, .pointer (some ⟨S, 0, none⟩)] W (Calc W S L r)) :
    Calls Tryz.prog 75 #[fN fe, .pointer (some ⟨g, 0, none⟩)] w (Ret w (.tuple #[.bool r, .nilIface])) := by
  have HC := Lib.hid hC
  have HF := Lib.hid hF
  have hR := bt_one r
  clear hC hF
  unfold fN at *
  go_enter Tryz.func75, Tryz.ntmps75
  go_wp2_with fail
  generalize hW : World.alloc w _ = W0
  have hb0 : Below w.heap.size w W0 := by rw [← hW]; exact (by repeat (first | (with_reducible exact Below.refl _ _) | (with_reducible assumption) | ((with_reducible refine Below.alloc ?_ ?_ _); rotate_left; focus (first | exact Nat.le_refl _ | omega | (simp; done) | (simp; omega))) | ((with_reducible refine Below.setCell ?_ ?_ _); rotate_left; focus (first | exact Nat.le_refl _ | omega | (simp; done) | (simp; omega))) | (with_reducible refine Below.drew ?_) | (with_reducible refine below_drewN ?_ _) | ((with_reducible refine below_via (by assumption) ?_ ?_); focus (first | exact Nat.le_refl _ | omega | (simp; done) | (simp; omega)))))
  have hs0 : W0.heap.size = w.heap.size + 1 := by rw [← hW]; simp
  have HE0 : LB W0 w.heap.size (fNc fe) := by rw [← hW]; exact lb_alloc w (fNc fe) 68
  clear hW
  refine (c100 W0).mono ?_
  rintro e w1 ⟨S, L, rfl, hSg, hLg, hst, hb1⟩
  have HST := Lib.hid hst
  have hbA : Below w.heap.size w w1 := hb0.trans (hb1.mono (by omega))
  have HE1 := Lib.hid (HE0.below hb1 HE0.lt)
  have hs1 := hb1.size
  have HC1 := Lib.hid (HC.out.below hbA HC.out.lt)
  have k0 : w1.cell? ⟨g, 0, none⟩ = some (.int .u8 (15 : Int)) := HC1.out.at0
  have hgl : g < w1.heap.size := HC1.out.lt
  have hLk : (Instr.lookup 138 (.map (some w1.heap.size)) (.int .u8 15) true).run Tryz.prog (w1.alloc (.map (mK 6) 6)) = .ok (.tuple #[.func (.func 103) #[] #[], .bool true]) (w1.alloc (.map (mK 6) 6)) := lookK _ _ (mK 6) 6 15 2 _ (heap_alloc_new w1 _) (by kernel_rfl)
  clear hst HE0
  go_wp2_with fail
  have hbM : Below w1.heap.size w1 (w1.alloc (.map (mK 6) 6)) := (by repeat (first | (with_reducible exact Below.refl _ _) | (with_reducible assumption) | ((with_reducible refine Below.alloc ?_ ?_ _); rotate_left; focus (first | exact Nat.le_refl _ | omega | (simp; done) | (simp; omega))) | ((with_reducible refine Below.setCell ?_ ?_ _); rotate_left; focus (first | exact Nat.le_refl _ | omega | (simp; done) | (simp; omega))) | (with_reducible refine Below.drew ?_) | (with_reducible refine below_drewN ?_ _) | ((with_reducible refine below_via (by assumption) ?_ ?_); focus (first | exact Nat.le_refl _ | omega | (simp; done) | (simp; omega)))))
  have hsM : (w1.alloc (.map (mK 6) 6)).heap.size = w1.heap.size + 1 := by simp
  clear hLk k0
  generalize (w1.alloc (.map (mK 6) 6)) = W2 at hbM hsM ⊢
  have hb2w : Below w.heap.size w W2 := keepS hbM hbA
  have HE2 := Lib.hid (HE1.out.below hbM HE1.out.lt)
  have HC2 := Lib.hid (HC1.out.below hbM hgl)
  have HS2 := Lib.hid (HST.out.below hbM)
  obtain ⟨b0, b1, b2, b3, b4, b5, b6, b7, b8, b9⟩ := cells10 HE2.out.drew
  have a0 : W2.drew.cell? ⟨g, 1, none⟩ = _ := HC2.out.at1 0 _ rfl
  have a1 : W2.drew.cell? ⟨g, 1 + 1, none⟩ = _ := HC2.out.at1 1 _ rfl
  have a2 : W2.drew.cell? ⟨g, 1 + 2, none⟩ = _ := HC2.out.at1 2 _ rfl
  have a3 : W2.drew.cell? ⟨g, 1 + 3, none⟩ = _ := HC2.out.at1 3 _ rfl
  have a4 : W2.drew.cell? ⟨g, 1 + 4, none⟩ = _ := HC2.out.at1 4 _ rfl
  have a5 : W2.drew.cell? ⟨g, 1 + 5, none⟩ = _ := HC2.out.at1 5 _ rfl
  have a6 : W2.drew.cell? ⟨g, 1 + 6, none⟩ = _ := HC2.out.at1 6 _ rfl
  have a7 : W2.drew.cell? ⟨g, 1 + 7, none⟩ = _ := HC2.out.at1 7 _ rfl
  have a8 : W2.drew.cell? ⟨g, 1 + 8, none⟩ = _ := HC2.out.at1 8 _ rfl
  have a9 : W2.drew.cell? ⟨g, 1 + 9, none⟩ = _ := HC2.out.at1 9 _ rfl
  simp only [Nat.reduceAdd] at a1 a2 a3 a4 a5 a6 a7 a8 a9
  have hbd : Below w.heap.size w W2.drew := Below.drew hb2w
  have hsd : W2.drew.heap.size = W2.heap.size := rfl
  have hSd : ST0 W2.drew S L := HS2.out.below (Below.drew (Below.refl _ _))
  go_region_with (go_at_call 103; refine (HF.out W2.drew S L hbd hSd).mono ?_; rintro e w3 ⟨b, rfl, hbb, hst1, hb3⟩; have HST1 := Lib.hid hst1; clear hst1)
  all_goals
    have hb3w : Below w.heap.size w w3 := hbd.trans (hb3.mono (by omega))
    clear a0 a1 a2 a3 a4 a5 a6 a7 a8 a9 b0 b1 b2 b3 b4 b5 b6 b7 b8 b9
    go_wp2_with fail
    refine (c107 S L b _ w3 HST1.out).mono ?_
    rintro e w4 ⟨rfl, rfl⟩
    go_wp2_with fail
    have H108 := Lib.hid (c108 S L b _ w4 HST1.out)
    unfold fB at H108
    refine H108.out.mono ?_
    rintro e w5 ⟨rfl, hb5⟩
    have hb5w : Below w.heap.size w w5 := hb3w.trans (hb5 w.heap.size (by omega) (by omega) (by omega))
    go_wp2_with fail
    (refine bodyPost_ret (v := .tuple #[.bool r, .nilIface]) ?_ rfl ?_; (focus (first | (simp [results, Tryz.results75, go_sem, hc1, hz1]; done) | (simp [results, Tryz.results75, go_sem]; done) | (simp [results, Tryz.results75, go_sem, *]; done))); exact ret_mk hb5w)

set_option maxRecDepth 100000 in
set_option maxHeartbeats 2000000 in
theorem c75_12 (fe fc g : Nat) (r : Bool) (w : World) (hC : CritC w g 12 fc)
    (hF : ∀ W S L, Below w.heap.size w W → ST0 W S L → Calls Tryz.prog 104 #[fN fc, fN fe, .pointer (some ⟨S, 0, none⟩)] W (Calc W S L r)) :
    Calls Tryz.prog 75 #[fN fe, .pointer (some ⟨g, 0, none⟩)] w (Ret w (.tuple #[.bool r, .nilIface])) := by
  have HC := Lib.hid hC
  have HF := Lib.hid hF
  have hR := bt_one r
  clear hC hF
  unfold fN at *
  go_enter Tryz.func75, Tryz.ntmps75
  go_wp2_with fail
  generalize hW : World.alloc w _ = W0
  have hb0 : Below w.heap.size w W0 := by rw [← hW]; exact (by repeat (first | (with_reducible exact Below.refl _ _) | (with_reducible assumption) | ((with_reducible refine Below.alloc ?_ ?_ _); rotate_left; focus (first | exact Nat.le_refl _ | omega | (simp; done) | (simp; omega))) | ((with_reducible refine Below.setCell ?_ ?_ _); rotate_left; focus (first | exact Nat.le_refl _ | omega | (simp; done) | (simp; omega))) | (with_reducible refine Below.drew ?_) | (with_reducible refine below_drewN ?_ _) | ((with_reducible refine below_via (by assumption) ?_ ?_); focus (first | exact Nat.le_refl _ | omega | (simp; done) | (simp; omega)))))
  have hs0 : W0.heap.size = w.heap.size + 1 := by rw [← hW]; simp
  have HE0 : LB W0 w.heap.size (fNc fe) := by rw [← hW]; exact lb_alloc w (fNc fe) 68
  clear hW
  refine (c100 W0).mono ?_
  rintro e w1 ⟨S, L, rfl, hSg, hLg, hst, hb1⟩
  have HST := Lib.hid hst
  have hbA : Below w.heap.size w w1 := hb0.trans (hb1.mono (by omega))
  have HE1 := Lib.hid (HE0.below hb1 HE0.lt)
  have hs1 := hb1.size
  have HC1 := Lib.hid (HC.out.below hbA HC.out.lt)
  have k0 : w1.cell? ⟨g, 0, none⟩ = some (.int .u8 (12 : Int)) := HC1.out.at0
  have hgl : g < w1.heap.size := HC1.out.lt
  have hLk : (Instr.lookup 138 (.map (some w1.heap.size)) (.int .u8 12) true).run Tryz.prog (w1.alloc (.map (mK 6) 6)) = .ok (.tuple #[.func (.func 104) #[] #[], .bool true]) (w1.alloc (.map (mK 6) 6)) := lookK _ _ (mK 6) 6 12 3 _ (heap_alloc_new w1 _) (by kernel_rfl)
  clear hst HE0
  go_wp2_with fail
  have hbM : Below w1.heap.size w1 (w1.alloc (.map (mK 6) 6)) := (by repeat (first | (with_reducible exact Below.refl _ _) | (with_reducible assumption) | ((with_reducible refine Below.alloc ?_ ?_ _); rotate_left; focus (first | exact Nat.le_refl _ | omega | (simp; done) | (simp; omega))) | ((with_reducible refine Below.setCell ?_ ?_ _); rotate_left; focus (first | exact Nat.le_refl _ | omega | (simp; done) | (simp; omega))) | (with_reducible refine Below.drew ?_) | (with_reducible refine below_drewN ?_ _) | ((with_reducible refine below_via (by assumption) ?_ ?_); focus (first | exact Nat.le_refl _ | omega | (simp; done) | (simp; omega)))))
  have hsM : (w1.alloc (.map (mK 6) 6)).heap.size = w1.heap.size + 1 := by simp
  clear hLk k0
  generalize (w1.alloc (.map (mK 6) 6)) = W2 at hbM hsM ⊢
  have hb2w : Below w.heap.size w W2 := keepS hbM hbA
  have HE2 := Lib.hid (HE1.out.below hbM HE1.out.lt)
  have HC2 := Lib.hid (HC1.out.below hbM hgl)
  have HS2 := Lib.hid (HST.out.below hbM)
  obtain ⟨b0, b1, b2, b3, b4, b5, b6, b7, b8, b9⟩ := cells10 HE2.out.drew
  have a0 : W2.drew.cell? ⟨g, 1, none⟩ = _ := HC2.out.at1 0 _ rfl
  have a1 : W2.drew.cell? ⟨g, 1 + 1, none⟩ = _ := HC2.out.at1 1 _ rfl
  have a2 : W2.drew.cell? ⟨g, 1 + 2, none⟩ = _ := HC2.out.at1 2 _ rfl
  have a3 : W2.drew.cell? ⟨g, 1 + 3, none⟩ = _ := HC2.out.at1 3 _ rfl
  have a4 : W2.drew.cell? ⟨g, 1 + 4, none⟩ = _ := HC2.out.at1 4 _ rfl
  have a5 : W2.drew.cell? ⟨g, 1 + 5, none⟩ = _ := HC2.out.at1 5 _ rfl
  have a6 : W2.drew.cell? ⟨g, 1 + 6, none⟩ = _ := HC2.out.at1 6 _ rfl
  have a7 : W2.drew.cell? ⟨g, 1 + 7, none⟩ = _ := HC2.out.at1 7 _ rfl
  have a8 : W2.drew.cell? ⟨g, 1 + 8, none⟩ = _ := HC2.out.at1 8 _ rfl
  have a9 : W2.drew.cell? ⟨g, 1 + 9, none⟩ = _ := HC2.out.at1 9 _ rfl
  simp only [Nat.reduceAdd] at a1 a2 a3 a4 a5 a6 a7 a8 a9
  have hbd : Below w.heap.size w W2.drew := Below.drew hb2w
  have hsd : W2.drew.heap.size = W2.heap.size := rfl
  have hSd : ST0 W2.drew S L := HS2.out.below (Below.drew (Below.refl _ _))
  go_region_with (go_at_call 104; refine (HF.out W2.drew S L hbd hSd).mono ?_; rintro e w3 ⟨b, rfl, hbb, hst1, hb3⟩; have HST1 := Lib.hid hst1; clear hst1)
  all_goals
    have hb3w : Below w.heap.size w w3 := hbd.trans (hb3.mono (by omega))
    clear a0 a1 a2 a3 a4 a5 a6 a7 a8 a9 b0 b1 b2 b3 b4 b5 b6 b7 b8 b9
    go_wp2_with fail
    refine (c107 S L b _ w3 HST1.out).mono ?_
    rintro e w4 ⟨rfl, rfl⟩
    go_wp2_with fail
    have H108 := Lib.hid (c108 S L b _ w4 HST1.out)
    unfold fB at H108
    refine H108.out.mono ?_
    rintro e w5 ⟨rfl, hb5⟩
    have hb5w : Below w.heap.size w w5 := hb3w.trans (hb5 w.heap.size (by omega) (by omega) (by omega))
    go_wp2_with fail
    (refine bodyPost_ret (v := .tuple #[.bool r, .nilIface]) ?_ rfl ?_; (focus (first | (simp [results, Tryz.results75, go_sem, hc1, hz1]; done) | (simp [results, Tryz.results75, go_sem]; done) | (simp [results, Tryz.results75, go_sem, *]; done))); exact ret_mk hb5w)

set_option maxRecDepth 100000 in
set_option maxHeartbeats 2000000 in
theorem c75_16 (fe fc g : Nat) (r : Bool) (w : World) (hC : CritC w g 16 fc)
    (hF : ∀ W S L, Below w.heap.size w W → ST0 W S L → Calls Tryz.prog 105 #[fN fc, fN fe, .pointer (some ⟨S, 0, none⟩)] W (Calc W S L r)) :
    Calls Tryz.prog 75 #[fN fe, .pointer (some ⟨g, 0, none⟩)] w (Ret w (.tuple #[.bool r, .nilIface])) := by
  have HC := Lib.hid hC
  have HF := Lib.hid hF
  have hR := bt_one r
  clear hC hF
  unfold fN at *
  go_enter Tryz.func75, Tryz.ntmps75
  go_wp2_with fail
  generalize hW : World.alloc w _ = W0
  have hb0 : Below w.heap.size w W0 := by rw [← hW]; exact (by repeat (first | (with_reducible exact Below.refl _ _) | (with_reducible assumption) | ((with_reducible refine Below.alloc ?_ ?_ _); rotate_left; focus (first | exact Nat.le_refl _ | omega | (simp; done) | (simp; omega))) | ((with_reducible refine Below.setCell ?_ ?_ _); rotate_left; focus (first | exact Nat.le_refl _ | omega | (simp; done) | (simp; omega))) | (with_reducible refine Below.drew ?_) | (with_reducible refine below_drewN ?_ _) | ((with_reducible refine below_via (by assumption) ?_ ?_); focus (first | exact Nat.le_refl _ | omega | (simp; done) | (simp; omega)))))
  have hs0 : W0.heap.size = w.heap.size + 1 := by rw [← hW]; simp
  have HE0 : LB W0 w.heap.size (fNc fe) := by rw [← hW]; exact lb_alloc w (fNc fe) 68
  clear hW
  refine (c100 W0).mono ?_
  rintro e w1 ⟨S, L, rfl, hSg, hLg, hst, hb1⟩
  have HST := Lib.hid hst
  have hbA : Below w.heap.size w w1 := hb0.trans (hb1.mono (by omega))
  have HE1 := Lib.hid (HE0.below hb1 HE0.lt)
  have hs1 := hb1.size
  have HC1 := Lib.hid (HC.out.below hbA HC.out.lt)
  have k0 : w1.cell? ⟨g, 0, none⟩ = some (.int .u8 (16 : Int)) := HC1.out.at0
  have hgl : g < w1.heap.size := HC1.out.lt
  have hLk : (Instr.lookup 138 (.map (some w1.heap.size)) (.int .u8 16) true).run Tryz.prog (w1.alloc (.map (mK 6) 6)) = .ok (.tuple #[.func (.func 105) #[] #[], .bool true]) (w1.alloc (.map (mK 6) 6)) := lookK _ _ (mK 6) 6 16 4 _ (heap_alloc_new w1 _) (by kernel_rfl)
  clear hst HE0
  go_wp2_with fail
  have hbM : Below w1.heap.size w1 (w1.alloc (.map (mK 6) 6)) := (by repeat (first | (with_reducible exact Below.refl _ _) | (with_reducible assumption) | ((with_reducible refine Below.alloc ?_ ?_ _); rotate_left; focus (first | exact Nat.le_refl _ | omega | (simp; done) | (simp; omega))) | ((with_reducible refine Below.setCell ?_ ?_ _); rotate_left; focus (first | exact Nat.le_refl _ | omega | (simp; done) | (simp; omega))) | (with_reducible refine Below.drew ?_) | (with_reducible refine below_drewN ?_ _) | ((with_reducible refine below_via (by assumption) ?_ ?_); focus (first | exact Nat.le_refl _ | omega | (simp; done) | (simp; omega)))))
  have hsM : (w1.alloc (.map (mK 6) 6)).heap.size = w1.heap.size + 1 := by simp
  clear hLk k0
  generalize (w1.alloc (.map (mK 6) 6)) = W2 at hbM hsM ⊢
  have hb2w : Below w.heap.size w W2 := keepS hbM hbA
  have HE2 := Lib.hid (HE1.out.below hbM HE1.out.lt)
  have HC2 := Lib.hid (HC1.out.below hbM hgl)
  have HS2 := Lib.hid (HST.out.below hbM)
  obtain ⟨b0, b1, b2, b3, b4, b5, b6, b7, b8, b9⟩ := cells10 HE2.out.drew
  have a0 : W2.drew.cell? ⟨g, 1, none⟩ = _ := HC2.out.at1 0 _ rfl
  have a1 : W2.drew.cell? ⟨g, 1 + 1, none⟩ = _ := HC2.out.at1 1 _ rfl
  have a2 : W2.drew.cell? ⟨g, 1 + 2, none⟩ = _ := HC2.out.at1 2 _ rfl
  have a3 : W2.drew.cell? ⟨g, 1 + 3, none⟩ = _ := HC2.out.at1 3 _ rfl
  have a4 : W2.drew.cell? ⟨g, 1 + 4, none⟩ = _ := HC2.out.at1 4 _ rfl
  have a5 : W2.drew.cell? ⟨g, 1 + 5, none⟩ = _ := HC2.out.at1 5 _ rfl
  have a6 : W2.drew.cell? ⟨g, 1 + 6, none⟩ = _ := HC2.out.at1 6 _ rfl
  have a7 : W2.drew.cell? ⟨g, 1 + 7, none⟩ = _ := HC2.out.at1 7 _ rfl
  have a8 : W2.drew.cell? ⟨g, 1 + 8, none⟩ = _ := HC2.out.at1 8 _ rfl
  have a9 : W2.drew.cell? ⟨g, 1 + 9, none⟩ = _ := HC2.out.at1 9 _ rfl
  simp only [Nat.reduceAdd] at a1 a2 a3 a4 a5 a6 a7 a8 a9
  have hbd : Below w.heap.size w W2.drew := Below.drew hb2w
  have hsd : W2.drew.heap.size = W2.heap.size := rfl
  have hSd : ST0 W2.drew S L := HS2.out.below (Below.drew (Below.refl _ _))
  go_region_with (go_at_call 105; refine (HF.out W2.drew S L hbd hSd).mono ?_; rintro e w3 ⟨b, rfl, hbb, hst1, hb3⟩; have HST1 := Lib.hid hst1; clear hst1)
  all_goals
    have hb3w : Below w.heap.size w w3 := hbd.trans (hb3.mono (by omega))
    clear a0 a1 a2 a3 a4 a5 a6 a7 a8 a9 b0 b1 b2 b3 b4 b5 b6 b7 b8 b9
    go_wp2_with fail
    refine (c107 S L b _ w3 HST1.out).mono ?_
    rintro e w4 ⟨rfl, rfl⟩
    go_wp2_with fail
    have H108 := Lib.hid (c108 S L b _ w4 HST1.out)
    unfold fB at H108
    refine H108.out.mono ?_
    rintro e w5 ⟨rfl, hb5⟩
    have hb5w : Below w.heap.size w w5 := hb3w.trans (hb5 w.heap.size (by omega) (by omega) (by omega))
    go_wp2_with fail
    (refine bodyPost_ret (v := .tuple #[.bool r, .nilIface]) ?_ rfl ?_; (focus (first | (simp [results, Tryz.results75, go_sem, hc1, hz1]; done) | (simp [results, Tryz.results75, go_sem]; done) | (simp [results, Tryz.results75, go_sem, *]; done))); exact ret_mk hb5w)

set_option maxRecDepth 100000 in
set_option maxHeartbeats 2000000 in
theorem c75_13 (fe fc g : Nat) (r : Bool) (w : World) (hC : CritC w g 13 fc)
    (hF : ∀ W S L, Below w.heap.size w W → ST0 W S L → Calls Tryz.prog 106 #[fN fc, fN fe, .pointer (some ⟨S, 0, none⟩)] W (Calc W S L r)) :
    Calls Tryz.prog 75 #[fN fe, .pointer (some ⟨g, 0, none⟩)] w (Ret w (.tuple #[.bool r, .nilIface])) := by
  have HC := Lib.hid hC
  have HF := Lib.hid hF
  have hR := bt_one r
  clear hC hF
  unfold fN at *
  go_enter Tryz.func75, Tryz.ntmps75
  go_wp2_with fail
  generalize hW : World.alloc w _ = W0
  have hb0 : Below w.heap.size w W0 := by rw [← hW]; exact (by repeat (first | (with_reducible exact Below.refl _ _) | (with_reducible assumption) | ((with_reducible refine Below.alloc ?_ ?_ _); rotate_left; focus (first | exact Nat.le_refl _ | omega | (simp; done) | (simp; omega))) | ((with_reducible refine Below.setCell ?_ ?_ _); rotate_left; focus (first | exact Nat.le_refl _ | omega | (simp; done) | (simp; omega))) | (with_reducible refine Below.drew ?_) | (with_reducible refine below_drewN ?_ _) | ((with_reducible refine below_via (by assumption) ?_ ?_); focus (first | exact Nat.le_refl _ | omega | (simp; done) | (simp; omega)))))
  have hs0 : W0.heap.size = w.heap.size + 1 := by rw [← hW]; simp
  have HE0 : LB W0 w.heap.size (fNc fe) := by rw [← hW]; exact lb_alloc w (fNc fe) 68
  clear hW
  refine (c100 W0).mono ?_
  rintro e w1 ⟨S, L, rfl, hSg, hLg, hst, hb1⟩
  have HST := Lib.hid hst
  have hbA : Below w.heap.size w w1 := hb0.trans (hb1.mono (by omega))
  have HE1 := Lib.hid (HE0.below hb1 HE0.lt)
  have hs1 := hb1.size
  have HC1 := Lib.hid (HC.out.below hbA HC.out.lt)
  have k0 : w1.cell? ⟨g, 0, none⟩ = some (.int .u8 (13 : Int)) := HC1.out.at0
  have hgl : g < w1.heap.size := HC1.out.lt
  have hLk : (Instr.lookup 138 (.map (some w1.heap.size)) (.int .u8 13) true).run Tryz.prog (w1.alloc (.map (mK 6) 6)) = .ok (.tuple #[.func (.func 106) #[] #[], .bool true]) (w1.alloc (.map (mK 6) 6)) := lookK _ _ (mK 6) 6 13 5 _ (heap_alloc_new w1 _) (by kernel_rfl)
  clear hst HE0
  go_wp2_with fail
  have hbM : Below w1.heap.size w1 (w1.alloc (.map (mK 6) 6)) := (by repeat (first | (with_reducible exact Below.refl _ _) | (with_reducible assumption) | ((with_reducible refine Below.alloc ?_ ?_ _); rotate_left; focus (first | exact Nat.le_refl _ | omega | (simp; done) | (simp; omega))) | ((with_reducible refine Below.setCell ?_ ?_ _); rotate_left; focus (first | exact Nat.le_refl _ | omega | (simp; done) | (simp; omega))) | (with_reducible refine Below.drew ?_) | (with_reducible refine below_drewN ?_ _) | ((with_reducible refine below_via (by assumption) ?_ ?_); focus (first | exact Nat.le_refl _ | omega | (simp; done) | (simp; omega)))))
  have hsM : (w1.alloc (.map (mK 6) 6)).heap.size = w1.heap.size + 1 := by simp
  clear hLk k0
  generalize (w1.alloc (.map (mK 6) 6)) = W2 at hbM hsM ⊢
  have hb2w : Below w.heap.size w W2 := keepS hbM hbA
  have HE2 := Lib.hid (HE1.out.below hbM HE1.out.lt)
  have HC2 := Lib.hid (HC1.out.below hbM hgl)
  have HS2 := Lib.hid (HST.out.below hbM)
  obtain ⟨b0, b1, b2, b3, b4, b5, b6, b7, b8, b9⟩ := cells10 HE2.out.drew
  have a0 : W2.drew.cell? ⟨g, 1, none⟩ = _ := HC2.out.at1 0 _ rfl
  have a1 : W2.drew.cell? ⟨g, 1 + 1, none⟩ = _ := HC2.out.at1 1 _ rfl
  have a2 : W2.drew.cell? ⟨g, 1 + 2, none⟩ = _ := HC2.out.at1 2 _ rfl
  have a3 : W2.drew.cell? ⟨g, 1 + 3, none⟩ = _ := HC2.out.at1 3 _ rfl
  have a4 : W2.drew.cell? ⟨g, 1 + 4, none⟩ = _ := HC2.out.at1 4 _ rfl
  have a5 : W2.drew.cell? ⟨g, 1 + 5, none⟩ = _ := HC2.out.at1 5 _ rfl
  have a6 : W2.drew.cell? ⟨g, 1 + 6, none⟩ = _ := HC2.out.at1 6 _ rfl
  have a7 : W2.drew.cell? ⟨g, 1 + 7, none⟩ = _ := HC2.out.at1 7 _ rfl
  have a8 : W2.drew.cell? ⟨g, 1 + 8, none⟩ = _ := HC2.out.at1 8 _ rfl
  have a9 : W2.drew.cell? ⟨g, 1 + 9, none⟩ = _ := HC2.out.at1 9 _ rfl
  simp only [Nat.reduceAdd] at a1 a2 a3 a4 a5 a6 a7 a8 a9
  have hbd : Below w.heap.size w W2.drew := Below.drew hb2w
  have hsd : W2.drew.heap.size = W2.heap.size := rfl
  have hSd : ST0 W2.drew S L := HS2.out.below (Below.drew (Below.refl _ _))
  go_region_with (go_at_call 106; refine (HF.out W2.drew S L hbd hSd).mono ?_; rintro e w3 ⟨b, rfl, hbb, hst1, hb3⟩; have HST1 := Lib.hid hst1; clear hst1)
  all_goals
    have hb3w : Below w.heap.size w w3 := hbd.trans (hb3.mono (by omega))
    clear a0 a1 a2 a3 a4 a5 a6 a7 a8 a9 b0 b1 b2 b3 b4 b5 b6 b7 b8 b9
    go_wp2_with fail
    refine (c107 S L b _ w3 HST1.out).mono ?_
    rintro e w4 ⟨rfl, rfl⟩
    go_wp2_with fail
    have H108 := Lib.hid (c108 S L b _ w4 HST1.out)
    unfold fB at H108
    refine H108.out.mono ?_
    rintro e w5 ⟨rfl, hb5⟩
    have hb5w : Below w.heap.size w w5 := hb3w.trans (hb5 w.heap.size (by omega) (by omega) (by omega))
    go_wp2_with fail
    (refine bodyPost_ret (v := .tuple #[.bool r, .nilIface]) ?_ rfl ?_; (focus (first | (simp [results, Tryz.results75, go_sem, hc1, hz1]; done) | (simp [results, Tryz.results75, go_sem]; done) | (simp [results, Tryz.results75, go_sem, *]; done))); exact ret_mk hb5w)

end Go.Proofs.YtkhgaenffnoimaaGreatDoor
