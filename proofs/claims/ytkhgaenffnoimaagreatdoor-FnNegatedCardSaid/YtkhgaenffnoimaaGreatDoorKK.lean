/- The stack of the criteria. -/
import Derived.Test.YtkhgaenffnoimaaGreatDoorKI
import Derived.LaidEqlPtr
set_option linter.unusedSimpArgs false
set_option linter.unusedVariables false
namespace Go.Proofs.YtkhgaenffnoimaaGreatDoor
open Go.RowKit FL
attribute [local go_sem] run_store_float
structure ST0 (w : World) (S L : Nat) : Prop where
  lt : S < w.heap.size
  at0 : w.cell? ⟨S, 0, none⟩ = some (.pointer (some ⟨L, 0, none⟩))
  ne : S ≠ L
  dl : DL w L [] []
theorem ST0.below {w w1 : World} {S L : Nat} (h : ST0 w S L) (hb : Below w.heap.size w w1) : ST0 w1 S L :=
  ⟨Nat.lt_of_lt_of_le h.lt hb.size, (hb.cell (p := ⟨S, 0, none⟩) h.lt).trans h.at0, h.ne, h.dl.below hb⟩
/-- The stack S holds v alone. -/
structure ST1 (w : World) (S L b : Nat) (v : Value) : Prop where
  lt : S < w.heap.size ∧ L < w.heap.size ∧ b < w.heap.size
  ne : S ≠ L ∧ S ≠ b ∧ L ≠ b
  s0 : w.cell? ⟨S, 0, none⟩ = some (.pointer (some ⟨L, 0, none⟩))
  l0 : w.cell? ⟨L, 0, none⟩ = some (.pointer (some ⟨b, 0, none⟩))
  l1 : w.cell? ⟨L, 1, none⟩ = some (.pointer (some ⟨b, 0, none⟩))
  l4 : w.cell? ⟨L, 4, none⟩ = some (.int .i64 1)
  b0 : w.cell? ⟨b, 0, none⟩ = some (.pointer (some ⟨L, 0, none⟩))
  b1 : w.cell? ⟨b, 1, none⟩ = some (.pointer (some ⟨L, 0, none⟩))
  b2 : w.cell? ⟨b, 2, none⟩ = some (.pointer (some ⟨L, 0, none⟩))
  b3 : w.cell? ⟨b, 3, none⟩ = some v
  fL : ∀ o, w.frozen? ⟨L, o, none⟩ = false
  fb : ∀ o, w.frozen? ⟨b, o, none⟩ = false
set_option maxRecDepth 100000 in
set_option maxHeartbeats 1000000 in
theorem c100 (w : World) : Calls Tryz.prog 100 #[] w (fun e w' => ∃ S L, e = .returned (.pointer (some ⟨S, 0, none⟩)) ∧ w.heap.size ≤ S ∧ w.heap.size ≤ L ∧ ST0 w' S L ∧ Below w.heap.size w w') := by
  go_enter Tryz.func100, Tryz.ntmps100
  go_wp2_with fail
  refine (c64 w).mono ?_
  rintro e w1 ⟨rfl, hd, hb⟩
  have hlt := hd.lt
  go_wp2_with fail
  go_ret
  refine ⟨w1.heap.size, w.heap.size, rfl, by omega, by omega, ⟨by simp, by simp [go_sem], by omega, hd.below (by repeat (first | (with_reducible exact Below.refl _ _) | (with_reducible assumption) | ((with_reducible refine Below.alloc ?_ ?_ _); rotate_left; focus (first | exact Nat.le_refl _ | omega | (simp; done) | (simp; omega))) | ((with_reducible refine Below.setCell ?_ ?_ _); rotate_left; focus (first | exact Nat.le_refl _ | omega | (simp; done) | (simp; omega))) | (with_reducible refine Below.drew ?_) | (with_reducible refine below_drewN ?_ _) | ((with_reducible refine below_via (by assumption) ?_ ?_); focus (first | exact Nat.le_refl _ | omega | (simp; done) | (simp; omega)))))⟩, hb.trans ?_⟩
  exact (show Below w1.heap.size w1 _ from (by repeat (first | (with_reducible exact Below.refl _ _) | (with_reducible assumption) | ((with_reducible refine Below.alloc ?_ ?_ _); rotate_left; focus (first | exact Nat.le_refl _ | omega | (simp; done) | (simp; omega))) | ((with_reducible refine Below.setCell ?_ ?_ _); rotate_left; focus (first | exact Nat.le_refl _ | omega | (simp; done) | (simp; omega))) | (with_reducible refine Below.drew ?_) | (with_reducible refine below_drewN ?_ _) | ((with_reducible refine below_via (by assumption) ?_ ?_); focus (first | exact Nat.le_refl _ | omega | (simp; done) | (simp; omega)))))).mono hb.size
theorem pushed_e1 {w : World} {L a n : Nat} {v : Value} (hL : L < w.heap.size) (ha : a < w.heap.size) : (pushed w L a n v).cell? ⟨w.heap.size, 1, none⟩ = some (.pointer (some ⟨a, 0, none⟩)) := by
  unfold pushed ins
  rw [cell_other (by omega), cell_other (by omega), cell_other (by omega), cell_other (by omega), cell_other (by omega)]
  refine cell_same (v := .pointer none) ?_
  rw [World.cell?_alloc_new]
  rfl
set_option maxRecDepth 100000 in
set_option maxHeartbeats 1000000 in
theorem c130 (S L : Nat) (t : TypeId) (v : Value) (w : World) (h : ST0 w S L) :
    Calls Tryz.prog 130 #[.pointer (some ⟨S, 0, none⟩), .iface t v] w (fun e w' => ∃ b, e = .returned (.tuple #[]) ∧ w.heap.size ≤ b ∧ ST1 w' S L b (.iface t v) ∧ Below L w w' ∧ ∀ b' o, b' < w.heap.size → b' ≠ L → w'.cell? ⟨b', o, none⟩ = w.cell? ⟨b', o, none⟩) := by
  have h0 := h.at0
  have H := Lib.hid (c65 L [] [] t v w (by simp) h.dl)
  have HS := Lib.hid h
  clear h
  go_enter Tryz.func130, Tryz.ntmps130
  go_wp2_with fail
  refine H.out.mono ?_
  rintro e w1 ⟨rfl, hw⟩
  go_wp2_with fail
  refine bodyPost_end (v := .tuple #[]) (by simp [results, Tryz.results130, go_sem]) rfl ?_
  have hS := HS.out
  have hd := hS.dl
  have hsz := pushed_size (w := w) (L := L) (a := L) (n := 0) (v := .iface t v)
  obtain ⟨he0, he2, he3⟩ := pushed_e (w := w) (L := L) (a := L) (n := 0) (v := .iface t v) hd.lt hd.lt
  have hne : L ≠ w.heap.size := by have := hd.lt; omega
  refine ⟨w.heap.size, rfl, Nat.le_refl _, ⟨⟨by rw [show lastOf L [] = L from rfl, hsz]; have := hS.lt; omega, by rw [show lastOf L [] = L from rfl, hsz]; have := hd.lt; omega, by rw [show lastOf L [] = L from rfl, hsz]; omega⟩,
    ⟨hS.ne, by have := hS.lt; omega, hne⟩, ?_, pushed_a hd.lt hd.nxt, pushed_L1 hd.lt hd.prv, pushed_L4 hd.lt hd.len, he0, ?_, he2, he3, fun o => (pushed_frozen hd.lt).trans (hd.fr o), fun o => pushed_frozen_e⟩, pushed_below (Below.refl _ _) (Nat.le_refl _) (Nat.le_refl _) (by have := hd.lt; omega), fun b' o h1 h2 => by rw [show lastOf L [] = L from rfl]; exact pushed_cell h1 (by omega) (by omega) (by omega)⟩
  · rw [show lastOf L [] = L from rfl, pushed_cell hS.lt (by have := hS.ne; omega) (by have := hS.ne; omega) (by have := hS.ne; omega)]
    exact hS.at0
  · exact pushed_e1 hd.lt hd.lt
theorem ST1.below {w w1 : World} {S L b : Nat} {v : Value} (h : ST1 w S L b v) (hb : Below w.heap.size w w1) : ST1 w1 S L b v := by
  obtain ⟨⟨a1, a2, a3⟩, hne, s0, l0, l1, l4, b0, b1, b2, b3, fL, fb⟩ := h
  have hs := hb.size
  exact ⟨⟨by omega, by omega, by omega⟩, hne, (hb.cell (p := ⟨S, _, none⟩) a1).trans s0, (hb.cell (p := ⟨L, _, none⟩) a2).trans l0, (hb.cell (p := ⟨L, _, none⟩) a2).trans l1, (hb.cell (p := ⟨L, _, none⟩) a2).trans l4,
    (hb.cell (p := ⟨b, _, none⟩) a3).trans b0, (hb.cell (p := ⟨b, _, none⟩) a3).trans b1, (hb.cell (p := ⟨b, _, none⟩) a3).trans b2, (hb.cell (p := ⟨b, _, none⟩) a3).trans b3, fun o => (hb.frozen (p := ⟨L, o, none⟩) a2).trans (fL o), fun o => (hb.frozen (p := ⟨b, o, none⟩) a3).trans (fb o)⟩
set_option maxRecDepth 100000 in
theorem c70_1 (S L b : Nat) (v : Value) (w : World) (h : ST1 w S L b v) : Calls Tryz.prog 70 #[.pointer (some ⟨L, 0, none⟩)] w (fun en w' => en = .returned (.int .i64 1) ∧ w' = w) := by
  have hl := h.l4
  clear h
  go_enter Tryz.func70, Tryz.ntmps70
  go_wp2_with fail
  go_ret
  exact ⟨rfl, rfl⟩
set_option maxRecDepth 100000 in
theorem c107 (S L b : Nat) (v : Value) (w : World) (h : ST1 w S L b v) : Calls Tryz.prog 107 #[.pointer (some ⟨S, 0, none⟩)] w (fun en w' => en = .returned (.int .i64 1) ∧ w' = w) := by
  have h0 := h.s0
  have H := Lib.hid (c70_1 S L b v w h)
  clear h
  go_enter Tryz.func107, Tryz.ntmps107
  go_wp2_with fail
  refine H.out.mono ?_
  rintro e w1 ⟨rfl, rfl⟩
  go_wp2_with fail
  go_ret
  exact ⟨rfl, rfl⟩
set_option maxRecDepth 100000 in
theorem c77_1 (S L b : Nat) (v : Value) (w : World) (h : ST1 w S L b v) : Calls Tryz.prog 77 #[.pointer (some ⟨L, 0, none⟩)] w (fun en w' => en = .returned (.pointer (some ⟨b, 0, none⟩)) ∧ w' = w) := by
  have hl := h.l4
  have h1 := h.l1
  clear h
  go_enter Tryz.func77, Tryz.ntmps77
  go_wp2_with fail
  go_ret
  exact ⟨rfl, rfl⟩
set_option maxRecDepth 100000 in
set_option maxHeartbeats 2000000 in
theorem c158 (S L b : Nat) (v : Value) (w : World) (h : ST1 w S L b v) : Calls Tryz.prog 158 #[.pointer (some ⟨L, 0, none⟩), .pointer (some ⟨b, 0, none⟩)] w (fun en w' => en = .returned (.tuple #[]) ∧ w'.cell? ⟨b, 3, none⟩ = some v ∧ ∀ B, B ≤ L → B ≤ b → Below B w w') := by
  obtain ⟨⟨a1, a2, a3⟩, ⟨n1, n2, n3⟩, s0, l0, l1, l4, b0, b1, b2, b3, fL, fb⟩ := h
  clear s0 a1 n1 n2
  go_enter Tryz.func158, Tryz.ntmps158
  go_wp2_with fail
  go_region
  go_wp2_with fail
  go_region
  go_wp2_with fail
  refine bodyPost_end (v := .tuple #[]) (by simp [results, Tryz.results158, go_sem]) rfl ⟨rfl, ?_, fun B hB1 hB2 => (by repeat (first | (with_reducible exact Below.refl _ _) | (with_reducible assumption) | ((with_reducible refine Below.alloc ?_ ?_ _); rotate_left; focus (first | exact Nat.le_refl _ | omega | (simp; done) | (simp; omega))) | ((with_reducible refine Below.setCell ?_ ?_ _); rotate_left; focus (first | exact Nat.le_refl _ | omega | (simp; done) | (simp; omega))) | (with_reducible refine Below.drew ?_) | (with_reducible refine below_drewN ?_ _) | ((with_reducible refine below_via (by assumption) ?_ ?_); focus (first | exact Nat.le_refl _ | omega | (simp; done) | (simp; omega)))))⟩
  have hd : ∀ (W : World) (p : Addr), W.drew.cell? p = W.cell? p := fun _ _ => rfl
  simp only [hd]
  first
    | (rw [cell_other (by omega), cell_other (by omega), cell_other (by omega), cell_other (by omega), cell_other (by omega), cell_other (by omega)]; exact b3)
    | (simp [go_sem, b3, n3, Ne.symm n3]; done)
theorem info118 : (Tryz.prog.info? 118).isSome = true := by kernel_rfl
theorem eql_list (a : Addr) (W : World) : (binOp BinOp.eql 66 (.pointer (some a)) (.pointer (some a))).run Tryz.prog W = .ok (.bool true) W := by
  obtain ⟨j, hj⟩ := Option.isSome_iff_exists.1 info118
  exact run_eql_ptr_same W a Tryz.underlying66 hj
set_option maxRecDepth 100000 in
set_option maxHeartbeats 2000000 in
theorem c133 (S L b : Nat) (v : Value) (w : World) (h : ST1 w S L b v) : Calls Tryz.prog 133 #[.pointer (some ⟨L, 0, none⟩), .pointer (some ⟨b, 0, none⟩)] w (fun en w' => en = .returned v ∧ w'.cell? ⟨b, 3, none⟩ = some v ∧ ∀ B, B ≤ L → B ≤ b → Below B w w') := by
  have b2 := h.b2
  have hq := eql_list ⟨L, 0, none⟩ w
  have H := Lib.hid (c158 S L b v w h)
  clear h
  go_enter Tryz.func133, Tryz.ntmps133
  go_wp2_with fail
  refine H.out.mono ?_
  rintro e w1 ⟨rfl, b3, hb⟩
  have HB := Lib.hid hb
  have HC := Lib.hid b3
  clear hb
  go_wp2_with fail
  go_ret
  exact ⟨rfl, HC.out, HB.out⟩
set_option maxRecDepth 100000 in
set_option maxHeartbeats 2000000 in
theorem c108 (S L b : Nat) (v : Value) (w : World) (h : ST1 w S L b v) : Calls Tryz.prog 108 #[.pointer (some ⟨S, 0, none⟩)] w (fun en w' => en = .returned v ∧ ∀ B, B ≤ L → B ≤ b → B ≤ S → Below B w w') := by
  have s0 := h.s0
  have H1 := Lib.hid (c77_1 S L b v w h)
  have H := Lib.hid (c133 S L b v w h)
  clear h
  go_enter Tryz.func108, Tryz.ntmps108
  go_wp2_with fail
  refine H1.out.mono ?_
  rintro e w1 ⟨rfl, rfl⟩
  go_wp2_with fail
  refine H.out.mono ?_
  rintro e w1 ⟨rfl, b3, hb⟩
  have HB := Lib.hid hb
  clear hb
  go_wp2_with fail
  go_ret
  exact ⟨rfl, fun B h1 h2 _ => HB.out B h1 h2⟩
end Go.Proofs.YtkhgaenffnoimaaGreatDoor
