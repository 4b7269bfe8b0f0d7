/- container/list: New, PushBack, Len, Front, Back. -/
import Derived.Test.YtkhgaenffnoimaaGreatDoorI1
set_option linter.unusedSimpArgs false
set_option linter.unusedVariables false
namespace Go.Proofs.YtkhgaenffnoimaaGreatDoor
open Go.RowKit
attribute [local go_sem] run_store_float
set_option maxRecDepth 100000 in
set_option maxHeartbeats 1000000 in
theorem c89 (L : Nat) (w : World) (hL : L < w.heap.size) (h0 : w.cell? ⟨L, 0, none⟩ = some (.pointer none)) (h1 : w.cell? ⟨L, 1, none⟩ = some (.pointer none)) (h4 : w.cell? ⟨L, 4, none⟩ = some (.int .i64 0))
    (f0 : w.frozen? ⟨L, 0, none⟩ = false) (f1 : w.frozen? ⟨L, 1, none⟩ = false) (f4 : w.frozen? ⟨L, 4, none⟩ = false) :
    Calls Tryz.prog 89 #[.pointer (some ⟨L, 0, none⟩)] w (fun e w' => e = .returned (.pointer (some ⟨L, 0, none⟩)) ∧
      w' = ((w.setCell ⟨L, 0, none⟩ (.pointer (some ⟨L, 0, none⟩))).setCell ⟨L, 1, none⟩ (.pointer (some ⟨L, 0, none⟩))).setCell ⟨L, 4, none⟩ (.int .i64 0)) := by
  go_enter Tryz.func89, Tryz.ntmps89
  go_wp2_with fail
  go_ret
  exact ⟨rfl, rfl⟩
/-- The list at L holds the values vs, in the elements bs. -/
structure DL (w : World) (L : Nat) (bs : List Nat) (vs : List Value) : Prop where
  lt : L < w.heap.size
  nxt : w.cell? ⟨L, 0, none⟩ = some (.pointer (some ⟨(bs[0]?).getD L, 0, none⟩))
  prv : w.cell? ⟨L, 1, none⟩ = some (.pointer (some ⟨(bs[bs.length - 1]?).getD L, 0, none⟩))
  len : w.cell? ⟨L, 4, none⟩ = some (.int .i64 bs.length)
  fr : ∀ o, w.frozen? ⟨L, o, none⟩ = false
  el : ∀ (i b : Nat), bs[i]? = some b → b < w.heap.size ∧ b ≠ L ∧ w.cell? ⟨b, 0, none⟩ = some (.pointer (some ⟨(bs[i + 1]?).getD L, 0, none⟩)) ∧ w.cell? ⟨b, 2, none⟩ = some (.pointer (some ⟨L, 0, none⟩)) ∧ w.cell? ⟨b, 3, none⟩ = vs[i]? ∧ (∀ o, w.frozen? ⟨b, o, none⟩ = false)
  inj : ∀ (i j b : Nat), bs[i]? = some b → bs[j]? = some b → i = j
  leneq : vs.length = bs.length
theorem frozen_alloc (w : World) (cs : Array Value) (e : TypeId) (o : Nat) : (w.alloc (.cells cs e)).frozen? ⟨w.heap.size, o, none⟩ = false := by
  have h : (w.alloc (.cells cs e)).heap[w.heap.size]? = some (.cells cs e (0, 0)) := heap_alloc_new w _
  unfold World.frozen?
  simp only [h]
  simp
set_option maxRecDepth 100000 in
set_option maxHeartbeats 1000000 in
theorem c64 (w : World) : Calls Tryz.prog 64 #[] w (fun e w' => e = .returned (.pointer (some ⟨w.heap.size, 0, none⟩)) ∧ DL w' w.heap.size [] [] ∧ Below w.heap.size w w') := by
  go_enter Tryz.func64, Tryz.ntmps64
  go_wp2_with fail
  refine (c89 w.heap.size _ (by simp) (by simp [go_sem]) (by simp [go_sem]) (by simp [go_sem]) (by simp [go_sem]) (by simp [go_sem]) (by simp [go_sem])).mono ?_
  rintro e w' ⟨rfl, rfl⟩
  go_wp2_with fail
  go_ret
  refine ⟨rfl, ⟨by simp [World.setCell], by simp [go_sem], by simp [go_sem], by simp [go_sem], fun o => frozen_alloc _ _ _ _, fun i b h => by simp at h, fun i j b h => by simp at h, rfl⟩, (by repeat (first | (with_reducible exact Below.refl _ _) | (with_reducible assumption) | ((with_reducible refine Below.alloc ?_ ?_ _); rotate_left; focus (first | exact Nat.le_refl _ | omega | (simp; done) | (simp; omega))) | ((with_reducible refine Below.setCell ?_ ?_ _); rotate_left; focus (first | exact Nat.le_refl _ | omega | (simp; done) | (simp; omega))) | (with_reducible refine Below.drew ?_) | (with_reducible refine below_drewN ?_ _) | ((with_reducible refine below_via (by assumption) ?_ ?_); focus (first | exact Nat.le_refl _ | omega | (simp; done) | (simp; omega)))))⟩
/-- What insert leaves. -/
def ins (w : World) (L a e n : Nat) : World :=
  (((((w.setCell ⟨e, 1, none⟩ (.pointer (some ⟨a, 0, none⟩))).setCell ⟨e, 0, none⟩ (.pointer (some ⟨L, 0, none⟩))).setCell ⟨a, 0, none⟩ (.pointer (some ⟨e, 0, none⟩))).setCell ⟨L, 1, none⟩ (.pointer (some ⟨e, 0, none⟩))).setCell ⟨e, 2, none⟩ (.pointer (some ⟨L, 0, none⟩))).setCell ⟨L, 4, none⟩ (.int .i64 (n + 1))
set_option maxRecDepth 100000 in
set_option maxHeartbeats 1000000 in
theorem c125 (L a e n : Nat) (p1 : Value) (w : World) (hn : n ≤ 1000) (hL : L < w.heap.size) (ha : a < w.heap.size) (he : e < w.heap.size) (hea : e ≠ a) (heL : e ≠ L)
    (h0 : w.cell? ⟨a, 0, none⟩ = some (.pointer (some ⟨L, 0, none⟩))) (h1 : w.cell? ⟨L, 1, none⟩ = some p1) (h4 : w.cell? ⟨L, 4, none⟩ = some (.int .i64 n))
    (g0 : w.cell? ⟨e, 0, none⟩ = some (.pointer none)) (g1 : w.cell? ⟨e, 1, none⟩ = some (.pointer none)) (g2 : w.cell? ⟨e, 2, none⟩ = some (.pointer none))
    (f0 : ∀ o, w.frozen? ⟨L, o, none⟩ = false) (f1 : ∀ o, w.frozen? ⟨a, o, none⟩ = false) (f2 : ∀ o, w.frozen? ⟨e, o, none⟩ = false) :
    Calls Tryz.prog 125 #[.pointer (some ⟨L, 0, none⟩), .pointer (some ⟨e, 0, none⟩), .pointer (some ⟨a, 0, none⟩)] w (fun en w' => en = .returned (.pointer (some ⟨e, 0, none⟩)) ∧ w' = ins w L a e n) := by
  go_enter Tryz.func125, Tryz.ntmps125
  go_wp2_with fail
  go_ret
  exact ⟨rfl, rfl⟩
set_option maxRecDepth 100000 in
set_option maxHeartbeats 1000000 in
theorem c90 (L x : Nat) (w : World) (h0 : w.cell? ⟨L, 0, none⟩ = some (.pointer (some ⟨x, 0, none⟩))) :
    Calls Tryz.prog 90 #[.pointer (some ⟨L, 0, none⟩)] w (fun en w' => en = .returned (.tuple #[]) ∧ w' = w) := by
  go_enter Tryz.func90, Tryz.ntmps90
  go_wp2_with fail
  exact bodyPost_end (v := .tuple #[]) (by simp [results, Tryz.results90, go_sem]) rfl ⟨rfl, rfl⟩
/-- What PushBack leaves. -/
def pushed (w : World) (L a n : Nat) (v : Value) : World := ins (w.alloc (.cells #[.pointer none, .pointer none, .pointer none, v] 85)) L a w.heap.size n
set_option maxRecDepth 100000 in
set_option maxHeartbeats 1000000 in
theorem c91 (L a n : Nat) (t : TypeId) (v p1 : Value) (w : World) (hn : n ≤ 1000) (hL : L < w.heap.size) (ha : a < w.heap.size)
    (h0 : w.cell? ⟨a, 0, none⟩ = some (.pointer (some ⟨L, 0, none⟩))) (h1 : w.cell? ⟨L, 1, none⟩ = some p1) (h4 : w.cell? ⟨L, 4, none⟩ = some (.int .i64 n))
    (f0 : ∀ o, w.frozen? ⟨L, o, none⟩ = false) (f1 : ∀ o, w.frozen? ⟨a, o, none⟩ = false) :
    Calls Tryz.prog 91 #[.pointer (some ⟨L, 0, none⟩), .iface t v, .pointer (some ⟨a, 0, none⟩)] w (fun en w' => en = .returned (.pointer (some ⟨w.heap.size, 0, none⟩)) ∧ w' = pushed w L a n (.iface t v)) := by
  go_enter Tryz.func91, Tryz.ntmps91
  go_wp2_with fail
  have hbA : Below w.heap.size w (w.alloc (.cells #[.pointer none, .pointer none, .pointer none, .iface t v] 85)) := (by repeat (first | (with_reducible exact Below.refl _ _) | (with_reducible assumption) | ((with_reducible refine Below.alloc ?_ ?_ _); rotate_left; focus (first | exact Nat.le_refl _ | omega | (simp; done) | (simp; omega))) | ((with_reducible refine Below.setCell ?_ ?_ _); rotate_left; focus (first | exact Nat.le_refl _ | omega | (simp; done) | (simp; omega))) | (with_reducible refine Below.drew ?_) | (with_reducible refine below_drewN ?_ _) | ((with_reducible refine below_via (by assumption) ?_ ?_); focus (first | exact Nat.le_refl _ | omega | (simp; done) | (simp; omega)))))
  refine (c125 L a w.heap.size n p1 _ hn (by simp; omega) (by simp; omega) (by simp) (by omega) (by omega) ((hbA.cell (p := ⟨a, 0, none⟩) ha).trans h0) ((hbA.cell (p := ⟨L, 1, none⟩) hL).trans h1) ((hbA.cell (p := ⟨L, 4, none⟩) hL).trans h4) (by rw [World.cell?_alloc_new]; rfl) (by rw [World.cell?_alloc_new]; rfl) (by rw [World.cell?_alloc_new]; rfl)
    (fun o => (hbA.frozen (p := ⟨L, o, none⟩) hL).trans (f0 o)) (fun o => (hbA.frozen (p := ⟨a, o, none⟩) ha).trans (f1 o)) (fun o => frozen_alloc _ _ _ _)).mono ?_
  rintro e w' ⟨rfl, rfl⟩
  go_wp2_with fail
  go_ret
  exact ⟨rfl, rfl⟩
set_option maxRecDepth 100000 in
set_option maxHeartbeats 1000000 in
theorem c65w (L a n x : Nat) (t : TypeId) (v : Value) (w : World) (hn : n ≤ 1000) (hL : L < w.heap.size) (ha : a < w.heap.size)
    (hx : w.cell? ⟨L, 0, none⟩ = some (.pointer (some ⟨x, 0, none⟩)))
    (h0 : w.cell? ⟨a, 0, none⟩ = some (.pointer (some ⟨L, 0, none⟩))) (h1 : w.cell? ⟨L, 1, none⟩ = some (.pointer (some ⟨a, 0, none⟩))) (h4 : w.cell? ⟨L, 4, none⟩ = some (.int .i64 n))
    (f0 : ∀ o, w.frozen? ⟨L, o, none⟩ = false) (f1 : ∀ o, w.frozen? ⟨a, o, none⟩ = false) :
    Calls Tryz.prog 65 #[.pointer (some ⟨L, 0, none⟩), .iface t v] w (fun en w' => en = .returned (.pointer (some ⟨w.heap.size, 0, none⟩)) ∧ w' = pushed w L a n (.iface t v)) := by
  go_enter Tryz.func65, Tryz.ntmps65
  go_wp2_with (first
    | (go_at_call 90; refine (c90 L x w hx).mono ?_; rintro e w' ⟨rfl, rfl⟩)
    | (go_at_call 91; refine (c91 L a n t v _ _ hn hL ha h0 h1 h4 f0 f1).mono ?_; rintro e w1 ⟨rfl, rfl⟩))
  go_ret
  exact ⟨rfl, rfl⟩
theorem cell_other {w : World} {b o b' o' : Nat} {u : Value} (h : ¬(b = b' ∧ o = o')) : (w.setCell ⟨b', o', none⟩ u).cell? ⟨b, o, none⟩ = w.cell? ⟨b, o, none⟩ := by
  refine World.cell?_setCell_other w _ _ _ ?_
  intro he
  injection he with h1 h2 _
  exact h ⟨h1.symm, h2.symm⟩
theorem cell_same {w : World} {b o : Nat} {u v : Value} (h : w.cell? ⟨b, o, none⟩ = some v) : (w.setCell ⟨b, o, none⟩ u).cell? ⟨b, o, none⟩ = some u :=
  World.cell?_setCell_same w ⟨b, o, none⟩ _ h
theorem pushed_cell {w : World} {L a n : Nat} {v : Value} {b o : Nat} (hb : b < w.heap.size) (h1 : ¬(b = a ∧ o = 0)) (h2 : ¬(b = L ∧ o = 1)) (h3 : ¬(b = L ∧ o = 4)) : (pushed w L a n v).cell? ⟨b, o, none⟩ = w.cell? ⟨b, o, none⟩ := by
  have hbA : Below w.heap.size w (w.alloc (.cells #[.pointer none, .pointer none, .pointer none, v] 85)) := (by repeat (first | (with_reducible exact Below.refl _ _) | (with_reducible assumption) | ((with_reducible refine Below.alloc ?_ ?_ _); rotate_left; focus (first | exact Nat.le_refl _ | omega | (simp; done) | (simp; omega))) | ((with_reducible refine Below.setCell ?_ ?_ _); rotate_left; focus (first | exact Nat.le_refl _ | omega | (simp; done) | (simp; omega))) | (with_reducible refine Below.drew ?_) | (with_reducible refine below_drewN ?_ _) | ((with_reducible refine below_via (by assumption) ?_ ?_); focus (first | exact Nat.le_refl _ | omega | (simp; done) | (simp; omega)))))
  unfold pushed ins
  rw [cell_other h3, cell_other (by omega), cell_other h2, cell_other h1, cell_other (by omega), cell_other (by omega)]
  exact hbA.cell (p := ⟨b, o, none⟩) hb
theorem pushed_a {w : World} {L a n : Nat} {v u : Value} (ha : a < w.heap.size) (h : w.cell? ⟨a, 0, none⟩ = some u) : (pushed w L a n v).cell? ⟨a, 0, none⟩ = some (.pointer (some ⟨w.heap.size, 0, none⟩)) := by
  have hbA : Below w.heap.size w (w.alloc (.cells #[.pointer none, .pointer none, .pointer none, v] 85)) := (by repeat (first | (with_reducible exact Below.refl _ _) | (with_reducible assumption) | ((with_reducible refine Below.alloc ?_ ?_ _); rotate_left; focus (first | exact Nat.le_refl _ | omega | (simp; done) | (simp; omega))) | ((with_reducible refine Below.setCell ?_ ?_ _); rotate_left; focus (first | exact Nat.le_refl _ | omega | (simp; done) | (simp; omega))) | (with_reducible refine Below.drew ?_) | (with_reducible refine below_drewN ?_ _) | ((with_reducible refine below_via (by assumption) ?_ ?_); focus (first | exact Nat.le_refl _ | omega | (simp; done) | (simp; omega)))))
  unfold pushed ins
  rw [cell_other (by omega), cell_other (by omega), cell_other (by omega)]
  refine cell_same (v := u) ?_
  rw [cell_other (by omega), cell_other (by omega)]
  exact (hbA.cell (p := ⟨a, 0, none⟩) ha).trans h
theorem pushed_L1 {w : World} {L a n : Nat} {v u : Value} (hL : L < w.heap.size) (h : w.cell? ⟨L, 1, none⟩ = some u) : (pushed w L a n v).cell? ⟨L, 1, none⟩ = some (.pointer (some ⟨w.heap.size, 0, none⟩)) := by
  have hbA : Below w.heap.size w (w.alloc (.cells #[.pointer none, .pointer none, .pointer none, v] 85)) := (by repeat (first | (with_reducible exact Below.refl _ _) | (with_reducible assumption) | ((with_reducible refine Below.alloc ?_ ?_ _); rotate_left; focus (first | exact Nat.le_refl _ | omega | (simp; done) | (simp; omega))) | ((with_reducible refine Below.setCell ?_ ?_ _); rotate_left; focus (first | exact Nat.le_refl _ | omega | (simp; done) | (simp; omega))) | (with_reducible refine Below.drew ?_) | (with_reducible refine below_drewN ?_ _) | ((with_reducible refine below_via (by assumption) ?_ ?_); focus (first | exact Nat.le_refl _ | omega | (simp; done) | (simp; omega)))))
  unfold pushed ins
  rw [cell_other (by omega), cell_other (by omega)]
  refine cell_same (v := u) ?_
  rw [cell_other (by omega), cell_other (by omega), cell_other (by omega)]
  exact (hbA.cell (p := ⟨L, 1, none⟩) hL).trans h
theorem pushed_L4 {w : World} {L a n : Nat} {v u : Value} (hL : L < w.heap.size) (h : w.cell? ⟨L, 4, none⟩ = some u) : (pushed w L a n v).cell? ⟨L, 4, none⟩ = some (.int .i64 (n + 1)) := by
  have hbA : Below w.heap.size w (w.alloc (.cells #[.pointer none, .pointer none, .pointer none, v] 85)) := (by repeat (first | (with_reducible exact Below.refl _ _) | (with_reducible assumption) | ((with_reducible refine Below.alloc ?_ ?_ _); rotate_left; focus (first | exact Nat.le_refl _ | omega | (simp; done) | (simp; omega))) | ((with_reducible refine Below.setCell ?_ ?_ _); rotate_left; focus (first | exact Nat.le_refl _ | omega | (simp; done) | (simp; omega))) | (with_reducible refine Below.drew ?_) | (with_reducible refine below_drewN ?_ _) | ((with_reducible refine below_via (by assumption) ?_ ?_); focus (first | exact Nat.le_refl _ | omega | (simp; done) | (simp; omega)))))
  unfold pushed ins
  refine cell_same (v := u) ?_
  rw [cell_other (by omega), cell_other (by omega), cell_other (by omega), cell_other (by omega), cell_other (by omega)]
  exact (hbA.cell (p := ⟨L, 4, none⟩) hL).trans h
theorem pushed_e {w : World} {L a n : Nat} {v : Value} (hL : L < w.heap.size) (ha : a < w.heap.size) :
    (pushed w L a n v).cell? ⟨w.heap.size, 0, none⟩ = some (.pointer (some ⟨L, 0, none⟩)) ∧ (pushed w L a n v).cell? ⟨w.heap.size, 2, none⟩ = some (.pointer (some ⟨L, 0, none⟩)) ∧ (pushed w L a n v).cell? ⟨w.heap.size, 3, none⟩ = some v := by
  unfold pushed ins
  refine ⟨?_, ?_, ?_⟩
  · rw [cell_other (by omega), cell_other (by omega), cell_other (by omega), cell_other (by omega)]
    refine cell_same (v := .pointer none) ?_
    rw [cell_other (by omega), World.cell?_alloc_new]
    rfl
  · rw [cell_other (by omega)]
    refine cell_same (v := .pointer none) ?_
    rw [cell_other (by omega), cell_other (by omega), cell_other (by omega), cell_other (by omega), World.cell?_alloc_new]
    rfl
  · rw [cell_other (by omega), cell_other (by omega), cell_other (by omega), cell_other (by omega), cell_other (by omega), cell_other (by omega), World.cell?_alloc_new]
    rfl
theorem pushed_frozen {w : World} {L a n : Nat} {v : Value} {b o : Nat} (hb : b < w.heap.size) : (pushed w L a n v).frozen? ⟨b, o, none⟩ = w.frozen? ⟨b, o, none⟩ := by
  have hbA : Below w.heap.size w (w.alloc (.cells #[.pointer none, .pointer none, .pointer none, v] 85)) := (by repeat (first | (with_reducible exact Below.refl _ _) | (with_reducible assumption) | ((with_reducible refine Below.alloc ?_ ?_ _); rotate_left; focus (first | exact Nat.le_refl _ | omega | (simp; done) | (simp; omega))) | ((with_reducible refine Below.setCell ?_ ?_ _); rotate_left; focus (first | exact Nat.le_refl _ | omega | (simp; done) | (simp; omega))) | (with_reducible refine Below.drew ?_) | (with_reducible refine below_drewN ?_ _) | ((with_reducible refine below_via (by assumption) ?_ ?_); focus (first | exact Nat.le_refl _ | omega | (simp; done) | (simp; omega)))))
  unfold pushed ins
  simp only [World.frozen?_setCell]
  exact hbA.frozen (p := ⟨b, o, none⟩) hb
theorem pushed_frozen_e {w : World} {L a n : Nat} {v : Value} {o : Nat} : (pushed w L a n v).frozen? ⟨w.heap.size, o, none⟩ = false := by
  unfold pushed ins
  simp only [World.frozen?_setCell]
  exact frozen_alloc _ _ _ _
theorem pushed_size {w : World} {L a n : Nat} {v : Value} : (pushed w L a n v).heap.size = w.heap.size + 1 := by
  unfold pushed ins
  simp [World.setCell]
theorem pushed_below {B : Nat} {w0 w : World} {L a n : Nat} {v : Value} (h : Below B w0 w) (hL : B ≤ L) (ha : B ≤ a) (hB : B ≤ w.heap.size) : Below B w0 (pushed w L a n v) := by
  unfold pushed ins
  exact (((((((h.alloc hB _).setCell hB _).setCell hB _).setCell ha _).setCell hL _).setCell hB _).setCell hL _)
/-- The last element, or the root. -/
def lastOf (L : Nat) (bs : List Nat) : Nat := (bs[bs.length - 1]?).getD L
theorem DL.last_lt {w : World} {L : Nat} {bs : List Nat} {vs : List Value} (h : DL w L bs vs) : lastOf L bs < w.heap.size ∧ (∀ o, w.frozen? ⟨lastOf L bs, o, none⟩ = false) ∧ w.cell? ⟨lastOf L bs, 0, none⟩ = some (.pointer (some ⟨L, 0, none⟩)) := by
  unfold lastOf
  rcases Nat.eq_zero_or_pos bs.length with h0 | h0
  · have : bs = [] := List.eq_nil_of_length_eq_zero h0
    subst this
    exact ⟨h.lt, h.fr, h.nxt⟩
  · obtain ⟨b, hb⟩ : ∃ b, bs[bs.length - 1]? = some b := ⟨_, List.getElem?_eq_getElem (by omega)⟩
    obtain ⟨h1, h2, h3, h4, h5, h6⟩ := h.el _ b hb
    rw [hb]
    refine ⟨h1, h6, ?_⟩
    rw [show bs.length - 1 + 1 = bs.length by omega, List.getElem?_eq_none (Nat.le_refl _)] at h3
    exact h3
theorem DL.push {w : World} {L : Nat} {bs : List Nat} {vs : List Value} (h : DL w L bs vs) (v : Value) : DL (pushed w L (lastOf L bs) bs.length v) L (bs ++ [w.heap.size]) (vs ++ [v]) := by
  obtain ⟨hl1, hl2, hl3⟩ := h.last_lt
  have hsz := pushed_size (w := w) (L := L) (a := lastOf L bs) (n := bs.length) (v := v)
  obtain ⟨he0, he2, he3⟩ := pushed_e (w := w) (L := L) (a := lastOf L bs) (n := bs.length) (v := v) h.lt hl1
  have hfst : bs ≠ [] → lastOf L bs ≠ L := fun hn he => by
    unfold lastOf at he
    obtain ⟨b, hb⟩ : ∃ b, bs[bs.length - 1]? = some b := ⟨_, List.getElem?_eq_getElem (by have := List.length_pos_iff.2 hn; omega)⟩
    rw [hb] at he
    exact (h.el _ b hb).2.1 he
  refine ⟨by rw [hsz]; exact Nat.lt_succ_of_lt h.lt, ?_, ?_, ?_, fun o => by rw [pushed_frozen h.lt]; exact h.fr o, ?_, ?_, by simp [h.leneq]⟩
  · by_cases hb : bs = []
    · subst hb
      exact pushed_a h.lt h.nxt
    · rw [pushed_cell h.lt (fun hh => hfst hb hh.1.symm) (by simp) (by simp), h.nxt]
      have hp := List.length_pos_iff.2 hb
      rw [List.getElem?_append_left hp]
  · have := pushed_L1 (w := w) (a := lastOf L bs) (n := bs.length) (v := v) h.lt h.prv
    rw [this]
    simp
  · rw [pushed_L4 h.lt h.len]
    simp
  · intro i b hb
    by_cases hi : i < bs.length
    · rw [List.getElem?_append_left hi] at hb
      obtain ⟨h1, h2, h3, h4, h5, h6⟩ := h.el i b hb
      refine ⟨by rw [hsz]; exact Nat.lt_succ_of_lt h1, h2, ?_, ?_, ?_, fun o => by rw [pushed_frozen h1]; exact h6 o⟩
      · by_cases hi1 : i + 1 < bs.length
        · rw [pushed_cell h1 (fun hh => ?_) (by simp) (by simp), h3, List.getElem?_append_left hi1]
          have hne := hh.1
          unfold lastOf at hne
          obtain ⟨b', hb'⟩ : ∃ b, bs[bs.length - 1]? = some b := ⟨_, List.getElem?_eq_getElem (by omega)⟩
          rw [hb'] at hne
          have := h.inj i (bs.length - 1) b hb (by rw [hb', hne]; rfl)
          omega
        · have hi2 : i = bs.length - 1 := by omega
          have hbl : lastOf L bs = b := by unfold lastOf; rw [← hi2, hb]; rfl
          have := pushed_a (w := w) (L := L) (n := bs.length) (v := v) hl1 hl3
          rw [hbl] at this ⊢
          rw [this, List.getElem?_append_right (by omega), show i + 1 - bs.length = 0 by omega]
          rfl
      · rw [pushed_cell h1 (by simp) (by simp) (by simp), h4]
      · rw [pushed_cell h1 (by simp) (by simp) (by simp), h5, List.getElem?_append_left (by rw [h.leneq]; exact hi)]
    · have hlt := (List.getElem?_eq_some_iff.1 hb).1
      rw [List.length_append, List.length_cons, List.length_nil] at hlt
      have hie : i = bs.length := by omega
      subst hie
      rw [List.getElem?_append_right (Nat.le_refl _), Nat.sub_self] at hb
      obtain rfl : w.heap.size = b := by simpa using hb
      refine ⟨by rw [hsz]; exact Nat.lt_succ_self _, Nat.ne_of_gt h.lt, ?_, he2, ?_, fun o => pushed_frozen_e⟩
      · rw [he0, List.getElem?_eq_none (by simp)]
        rfl
      · rw [he3, ← h.leneq, List.getElem?_append_right (Nat.le_refl _), Nat.sub_self]
        rfl
  · intro i j b hi hj
    have key : ∀ (i : Nat), (bs ++ [w.heap.size])[i]? = some b → (i < bs.length ∧ bs[i]? = some b ∧ b < w.heap.size) ∨ (i = bs.length ∧ b = w.heap.size) := by
      intro i hi
      by_cases h' : i < bs.length
      · rw [List.getElem?_append_left h'] at hi
        exact .inl ⟨h', hi, (h.el i b hi).1⟩
      · have hlt := (List.getElem?_eq_some_iff.1 hi).1
        rw [List.length_append, List.length_cons, List.length_nil] at hlt
        have hie : i = bs.length := by omega
        subst hie
        rw [List.getElem?_append_right (Nat.le_refl _), Nat.sub_self] at hi
        exact .inr ⟨rfl, by simpa using hi.symm⟩
    rcases key i hi with ⟨_, a1, a2⟩ | ⟨a1, a2⟩ <;> rcases key j hj with ⟨_, b1, b2⟩ | ⟨b1, b2⟩
    · exact h.inj i j b a1 b1
    · omega
    · omega
    · omega
theorem c65 (L : Nat) (bs : List Nat) (vs : List Value) (t : TypeId) (v : Value) (w : World) (hn : bs.length ≤ 1000) (h : DL w L bs vs) :
    Calls Tryz.prog 65 #[.pointer (some ⟨L, 0, none⟩), .iface t v] w (fun en w' => en = .returned (.pointer (some ⟨w.heap.size, 0, none⟩)) ∧ w' = pushed w L (lastOf L bs) bs.length (.iface t v)) :=
  c65w L (lastOf L bs) bs.length _ t v w hn h.lt h.last_lt.1 h.nxt h.last_lt.2.2 h.prv h.len h.fr h.last_lt.2.1
theorem DL.below {w w1 : World} {L : Nat} {bs : List Nat} {vs : List Value} (h : DL w L bs vs) (hb : Below w.heap.size w w1) : DL w1 L bs vs :=
  ⟨Nat.lt_of_lt_of_le h.lt hb.size, (hb.cell (p := ⟨L, _, none⟩) h.lt).trans h.nxt, (hb.cell (p := ⟨L, _, none⟩) h.lt).trans h.prv, (hb.cell (p := ⟨L, _, none⟩) h.lt).trans h.len, fun o => (hb.frozen (p := ⟨L, _, none⟩) h.lt).trans (h.fr o),
    fun i b hi => by
      obtain ⟨h1, h2, h3, h4, h5, h6⟩ := h.el i b hi
      exact ⟨Nat.lt_of_lt_of_le h1 hb.size, h2, (hb.cell (p := ⟨b, _, none⟩) h1).trans h3, (hb.cell (p := ⟨b, _, none⟩) h1).trans h4, (hb.cell (p := ⟨b, _, none⟩) h1).trans h5, fun o => (hb.frozen (p := ⟨b, _, none⟩) h1).trans (h6 o)⟩, h.inj, h.leneq⟩
set_option maxRecDepth 100000 in
theorem c70 (L : Nat) (bs : List Nat) (vs : List Value) (w : World) (h : DL w L bs vs) : Calls Tryz.prog 70 #[.pointer (some ⟨L, 0, none⟩)] w (fun en w' => en = .returned (.int .i64 bs.length) ∧ w' = w) := by
  have hl := h.len
  go_enter Tryz.func70, Tryz.ntmps70
  go_wp2_with fail
  go_ret
  exact ⟨rfl, rfl⟩
set_option maxRecDepth 100000 in
theorem c59 (L : Nat) (bs : List Nat) (vs : List Value) (w : World) (h : DL w L bs vs) (h0 : 0 < bs.length) : Calls Tryz.prog 59 #[.pointer (some ⟨L, 0, none⟩)] w (fun en w' => en = .returned (.pointer (some ⟨(bs[0]?).getD L, 0, none⟩)) ∧ w' = w) := by
  have hl := h.len
  have hn := h.nxt
  generalize (bs[0]?).getD L = x at hn ⊢
  generalize bs.length = n at hl h0
  go_enter Tryz.func59, Tryz.ntmps59
  go_wp2_with fail
  go_ret
  exact ⟨rfl, rfl⟩
set_option maxRecDepth 100000 in
theorem c77 (L : Nat) (bs : List Nat) (vs : List Value) (w : World) (h : DL w L bs vs) (h0 : 0 < bs.length) : Calls Tryz.prog 77 #[.pointer (some ⟨L, 0, none⟩)] w (fun en w' => en = .returned (.pointer (some ⟨lastOf L bs, 0, none⟩)) ∧ w' = w) := by
  have hl := h.len
  have hn := h.prv
  unfold lastOf
  generalize (bs[bs.length - 1]?).getD L = x at hn ⊢
  generalize bs.length = n at hl h0
  go_enter Tryz.func77, Tryz.ntmps77
  go_wp2_with fail
  go_ret
  exact ⟨rfl, rfl⟩
end Go.Proofs.YtkhgaenffnoimaaGreatDoor
/- innerArg, innerList. -/
set_option linter.unusedSimpArgs false
set_option linter.unusedVariables false
namespace Go.Proofs.YtkhgaenffnoimaaGreatDoor
open Go.RowKit
attribute [local go_sem] run_store_float
/-- A formula argument: a text; a number; a bool. -/
def fS (t : ByteArray) : Value := .agg #[.string ⟨#[]⟩, .float .f64 0, .string t, .slice none 0 0, .slice none 0 0, .bool false, .string ⟨#[]⟩, .int .u8 2, .pointer none, .pointer none]
def fB (b : Nat) : Value := .agg #[.string ⟨#[]⟩, .float .f64 b, .string ⟨#[]⟩, .slice none 0 0, .slice none 0 0, .bool true, .string ⟨#[]⟩, .int .u8 1, .pointer none, .pointer none]
def fN (b : Nat) : Value := .agg #[.string ⟨#[]⟩, .float .f64 b, .string ⟨#[]⟩, .slice none 0 0, .slice none 0 0, .bool false, .string ⟨#[]⟩, .int .u8 1, .pointer none, .pointer none]
set_option maxRecDepth 100000 in
set_option maxHeartbeats 1000000 in
theorem c81 (t : ByteArray) (w : World) : Calls Tryz.prog 81 #[.string t] w (Ret w (fS t)) := by
  unfold fS
  go_enter Tryz.func81, Tryz.ntmps81
  go_wp2_with fail
  exact bodyPost_ret (v := .agg #[.string ⟨#[]⟩, .float .f64 0, .string t, .slice none 0 0, .slice none 0 0, .bool false, .string ⟨#[]⟩, .int .u8 2, .pointer none, .pointer none]) (by first | (simp [results, Tryz.results81, go_sem, hc1, hz1]; done) | (simp [results, Tryz.results81, go_sem]; done) | (simp [results, Tryz.results81, go_sem, *]; done)) rfl (ret_mk (by repeat (first | (with_reducible exact Below.refl _ _) | (with_reducible assumption) | ((with_reducible refine Below.alloc ?_ ?_ _); rotate_left; focus (first | exact Nat.le_refl _ | omega | (simp; done) | (simp; omega))) | ((with_reducible refine Below.setCell ?_ ?_ _); rotate_left; focus (first | exact Nat.le_refl _ | omega | (simp; done) | (simp; omega))) | (with_reducible refine Below.drew ?_) | (with_reducible refine below_drewN ?_ _) | ((with_reducible refine below_via (by assumption) ?_ ?_); focus (first | exact Nat.le_refl _ | omega | (simp; done) | (simp; omega))))))
theorem c81u (t : ByteArray) (w : World) : Calls Tryz.prog 81 #[.string t] w (Ret w (.agg #[.string ⟨#[]⟩, .float .f64 0, .string t, .slice none 0 0, .slice none 0 0, .bool false, .string ⟨#[]⟩, .int .u8 2, .pointer none, .pointer none])) := c81 t w
set_option maxRecDepth 100000 in
set_option maxHeartbeats 2000000 in
theorem c66_2 (b : Nat) (t : ByteArray) (w : World) : Calls Tryz.prog 66 #[.agg #[.int .i64 2, .float .f64 b, .string t, .slice none 0 0]] w (Ret w (fS t)) := by
  unfold fS
  go_enter Tryz.func66, Tryz.ntmps66
  go_wp2_with (go_at_call 81; refine (c81u t _).mono ?_; rintro e w1 ⟨rfl, hb1⟩; obtain ⟨hc1, hf1, hz1⟩ := bcell hb1; have hle1 := hb1.size; try have hs1 : w.heap.size < w1.heap.size := hz1 _ (by first | (simp; done) | (simp; omega) | omega); try have hs2 : w.heap.size + 1 < w1.heap.size := hz1 _ (by first | (simp; done) | (simp; omega) | omega); try have hs3 : w.heap.size + 1 + 1 < w1.heap.size := hz1 _ (by first | (simp; done) | (simp; omega) | omega))
  exact bodyPost_ret (v := .agg #[.string ⟨#[]⟩, .float .f64 0, .string t, .slice none 0 0, .slice none 0 0, .bool false, .string ⟨#[]⟩, .int .u8 2, .pointer none, .pointer none]) (by first | (simp [results, Tryz.results66, go_sem, hc1, hz1]; done) | (simp [results, Tryz.results66, go_sem]; done) | (simp [results, Tryz.results66, go_sem, *]; done)) rfl (ret_mk (by repeat (first | (with_reducible exact Below.refl _ _) | (with_reducible assumption) | ((with_reducible refine Below.alloc ?_ ?_ _); rotate_left; focus (first | exact Nat.le_refl _ | omega | (simp; done) | (simp; omega))) | ((with_reducible refine Below.setCell ?_ ?_ _); rotate_left; focus (first | exact Nat.le_refl _ | omega | (simp; done) | (simp; omega))) | (with_reducible refine Below.drew ?_) | (with_reducible refine below_drewN ?_ _) | ((with_reducible refine below_via (by assumption) ?_ ?_); focus (first | exact Nat.le_refl _ | omega | (simp; done) | (simp; omega))))))
set_option maxRecDepth 100000 in
set_option maxHeartbeats 2000000 in
theorem c92 (b : Bool) (w : World) : Calls Tryz.prog 92 #[.bool b] w (Ret w (fB (if b then 4607182418800017408 else 0))) := by
  unfold fB
  cases b
  · go_enter Tryz.func92, Tryz.ntmps92
    go_wp2_with fail
    exact bodyPost_ret (v := .agg #[.string ⟨#[]⟩, .float .f64 0, .string ⟨#[]⟩, .slice none 0 0, .slice none 0 0, .bool true, .string ⟨#[]⟩, .int .u8 1, .pointer none, .pointer none]) (by first | (simp [results, Tryz.results92, go_sem, hc1, hz1]; done) | (simp [results, Tryz.results92, go_sem]; done) | (simp [results, Tryz.results92, go_sem, *]; done)) rfl (ret_mk (by repeat (first | (with_reducible exact Below.refl _ _) | (with_reducible assumption) | ((with_reducible refine Below.alloc ?_ ?_ _); rotate_left; focus (first | exact Nat.le_refl _ | omega | (simp; done) | (simp; omega))) | ((with_reducible refine Below.setCell ?_ ?_ _); rotate_left; focus (first | exact Nat.le_refl _ | omega | (simp; done) | (simp; omega))) | (with_reducible refine Below.drew ?_) | (with_reducible refine below_drewN ?_ _) | ((with_reducible refine below_via (by assumption) ?_ ?_); focus (first | exact Nat.le_refl _ | omega | (simp; done) | (simp; omega))))))
  · go_enter Tryz.func92, Tryz.ntmps92
    go_wp2_with fail
    exact bodyPost_ret (v := .agg #[.string ⟨#[]⟩, .float .f64 4607182418800017408, .string ⟨#[]⟩, .slice none 0 0, .slice none 0 0, .bool true, .string ⟨#[]⟩, .int .u8 1, .pointer none, .pointer none]) (by first | (simp [results, Tryz.results92, go_sem, hc1, hz1]; done) | (simp [results, Tryz.results92, go_sem]; done) | (simp [results, Tryz.results92, go_sem, *]; done)) rfl (ret_mk (by repeat (first | (with_reducible exact Below.refl _ _) | (with_reducible assumption) | ((with_reducible refine Below.alloc ?_ ?_ _); rotate_left; focus (first | exact Nat.le_refl _ | omega | (simp; done) | (simp; omega))) | ((with_reducible refine Below.setCell ?_ ?_ _); rotate_left; focus (first | exact Nat.le_refl _ | omega | (simp; done) | (simp; omega))) | (with_reducible refine Below.drew ?_) | (with_reducible refine below_drewN ?_ _) | ((with_reducible refine below_via (by assumption) ?_ ?_); focus (first | exact Nat.le_refl _ | omega | (simp; done) | (simp; omega))))))
set_option maxRecDepth 100000 in
set_option maxHeartbeats 2000000 in
theorem c45_B (b : Nat) (w : World) : Calls Tryz.prog 45 #[fB b] w (Ret w (.agg #[.int .i64 3, .float .f64 b, .string ⟨#[]⟩, .slice none 0 0])) := by
  unfold fB
  go_enter Tryz.func45, Tryz.ntmps45
  go_wp2_with fail
  exact bodyPost_ret (v := .agg #[.int .i64 3, .float .f64 b, .string ⟨#[]⟩, .slice none 0 0]) (by first | (simp [results, Tryz.results45, go_sem, hc1, hz1]; done) | (simp [results, Tryz.results45, go_sem]; done) | (simp [results, Tryz.results45, go_sem, *]; done)) rfl (ret_mk (by repeat (first | (with_reducible exact Below.refl _ _) | (with_reducible assumption) | ((with_reducible refine Below.alloc ?_ ?_ _); rotate_left; focus (first | exact Nat.le_refl _ | omega | (simp; done) | (simp; omega))) | ((with_reducible refine Below.setCell ?_ ?_ _); rotate_left; focus (first | exact Nat.le_refl _ | omega | (simp; done) | (simp; omega))) | (with_reducible refine Below.drew ?_) | (with_reducible refine below_drewN ?_ _) | ((with_reducible refine below_via (by assumption) ?_ ?_); focus (first | exact Nat.le_refl _ | omega | (simp; done) | (simp; omega))))))
set_option maxRecDepth 100000 in
set_option maxHeartbeats 2000000 in
theorem c78_S (t : ByteArray) (w : World) : Calls Tryz.prog 78 #[fS t] w (Ret w (.string t)) := by
  unfold fS
  go_enter Tryz.func78, Tryz.ntmps78
  go_wp2_with fail
  go_ret
  exact ret_mk (by repeat (first | (with_reducible exact Below.refl _ _) | (with_reducible assumption) | ((with_reducible refine Below.alloc ?_ ?_ _); rotate_left; focus (first | exact Nat.le_refl _ | omega | (simp; done) | (simp; omega))) | ((with_reducible refine Below.setCell ?_ ?_ _); rotate_left; focus (first | exact Nat.le_refl _ | omega | (simp; done) | (simp; omega))) | (with_reducible refine Below.drew ?_) | (with_reducible refine below_drewN ?_ _) | ((with_reducible refine below_via (by assumption) ?_ ?_); focus (first | exact Nat.le_refl _ | omega | (simp; done) | (simp; omega)))))
set_option maxRecDepth 100000 in
set_option maxHeartbeats 2000000 in
theorem c48 (fA : I → Value) (xs : List I) (A : Option Addr) (c : Nat) (w : World) (hl : xs.length ≤ 1000) (h0 : 0 < xs.length) (hx : IRow w A xs)
    (h57 : ∀ i, i ∈ xs → ∀ w', Calls Tryz.prog 66 #[.agg #[.int .i64 i.k, .float .f64 i.b, .string i.t, .slice none 0 0]] w' (Ret w' (fA i))) :
    Calls Tryz.prog 48 #[.slice A xs.length c] w (fun e w' => ∃ L bs, e = .returned (.pointer (some ⟨L, 0, none⟩)) ∧ bs.length = xs.length ∧ DL w' L bs (xs.map fun i => .iface 68 (fA i)) ∧ Below w.heap.size w w') := by
  rcases hx.icell with rfl | ⟨g, rfl, hg, hc⟩
  · cases h0
  have HC := Lib.hid hc
  have HF := Lib.hid h57
  clear hc hx h57
  obtain ⟨n, hn⟩ : ∃ n, n = xs.length := ⟨_, rfl⟩
  rw [← hn] at hl ⊢
  have HN := Lib.hid hn
  clear hn
  go_enter Tryz.func48, Tryz.ntmps48
  go_wp2_with (go_at_call 64; refine (c64 _).mono ?_; rintro e w1 ⟨rfl, hd1, hb1⟩)
  have HD1 := Lib.hid hd1
  clear hd1
  go_loopw [9] (fun i wr => ∃ (k : Nat) (bs : List Nat), k ≤ n ∧ i = .int .i64 k ∧ bs.length = k ∧ Below w.heap.size w wr ∧ DL wr w.heap.size bs ((xs.take k).map fun i => .iface 68 (fA i)) ∧ ∀ b, b ∈ bs → w.heap.size ≤ b) (fun i _ => n - (intOf i).toNat)
  case atStart => exact ⟨0, [], Nat.zero_le _, rfl, rfl, hb1, HD1.out, fun b h => (nomatch h)⟩
  case round =>
    obtain ⟨k, bs, hk, rfl, hbl, hb, hd, hbs⟩ := hrel
    have HD := Lib.hid hd
    have HBS := Lib.hid hbs
    clear hd hbs
    have hwr := hb.size
    by_cases hlt : k < n
    · have hkx : k < xs.length := by rw [← HN.out]; exact hlt
      obtain ⟨v, hv⟩ : ∃ v, xs[k]? = some v := ⟨_, List.getElem?_eq_getElem hkx⟩
      have hvm : v ∈ xs := List.mem_of_getElem? hv
      obtain ⟨h0, h1, h2, h3⟩ := (HC.out k v hv).below hb hg
      have HV := Lib.hid hv
      clear hv
      go_wp2_with (first
        | (go_at_call 66; refine (HF.out v hvm _).mono ?_; rintro e w2 ⟨rfl, hb2⟩; have hb2' : Below wr.heap.size wr w2 := (by repeat (first | (with_reducible exact Below.refl _ _) | (with_reducible assumption) | ((with_reducible refine Below.alloc ?_ ?_ _); rotate_left; focus (first | exact Nat.le_refl _ | omega | (simp; done) | (simp; omega))) | ((with_reducible refine Below.setCell ?_ ?_ _); rotate_left; focus (first | exact Nat.le_refl _ | omega | (simp; done) | (simp; omega))) | (with_reducible refine Below.drew ?_) | (with_reducible refine below_drewN ?_ _) | ((with_reducible refine below_via (by assumption) ?_ ?_); focus (first | exact Nat.le_refl _ | omega | (simp; done) | (simp; omega))))); have HD2 := Lib.hid (HD.out.below hb2'))
        | (go_at_call 65; refine (c65 w.heap.size bs _ 68 (fA v) _ (by omega) HD2.out).mono ?_; rintro e w3 ⟨rfl, rfl⟩))
      have hp := HD2.out.push (.iface 68 (fA v))
      rw [hbl] at hp
      have HP := Lib.hid hp
      clear hp
      go_roundw
      case rel => exact ⟨k + 1, bs ++ [w2.heap.size], by omega, by go_num, by simp [hbl], pushed_below (below_then hb hwr hb2') (Nat.le_refl _) (by
          unfold lastOf
          rcases Nat.eq_zero_or_pos bs.length with h | h
          · rw [List.getElem?_eq_none (by omega)]; exact Nat.le_refl _
          · obtain ⟨b, hb'⟩ : ∃ b, bs[bs.length - 1]? = some b := ⟨_, List.getElem?_eq_getElem (by omega)⟩
            rw [hb']; exact HBS.out b (List.mem_of_getElem? hb')) (by have := hb2'.size; omega),
        by rw [take_succ_of HV.out, List.map_append]; exact HP.out, fun b hbm => by
          rcases List.mem_append.1 hbm with h | h
          · exact HBS.out b h
          · simp at h; have := hb2'.size; omega⟩
      case measure => simp [intOf]; omega
    · have hk' : k = xs.length := by rw [← HN.out]; omega
      go_wp2_with fail
      go_ret
      have := HD.out
      rw [hk', List.take_length] at this
      exact ⟨_, bs, rfl, by rw [hbl, hk', HN.out], this, hb⟩
end Go.Proofs.YtkhgaenffnoimaaGreatDoor
/- in, out of the implementation's door. -/
set_option linter.unusedSimpArgs false
set_option linter.unusedVariables false
namespace Go.Proofs.YtkhgaenffnoimaaGreatDoor
open Go.RowKit
attribute [local go_sem] run_store_float
set_option maxRecDepth 100000 in
set_option maxHeartbeats 2000000 in
theorem c29 (xs : List I) (A : Option Addr) (c : Nat) (w : World) (hl : xs.length ≤ 1000) (h0 : 0 < xs.length) (hx : IRow w A xs) :
    Calls Tryz.prog 29 #[.slice A xs.length c] w (RetI w xs) := by
  rcases hx.icell with rfl | ⟨g, rfl, hg, hc⟩
  · cases h0
  have HC := Lib.hid hc
  clear hc hx
  obtain ⟨n, hn⟩ : ∃ n, n = xs.length := ⟨_, rfl⟩
  rw [← hn] at hl ⊢
  have HN := Lib.hid hn
  clear hn
  go_enter Tryz.func29, Tryz.ntmps29
  go_wp2_with fail
  go_loopw [3, 11] (fun v i wr => ∃ k : Nat, k ≤ n ∧ i = .int .i64 k ∧ Below w.heap.size w wr ∧ Own w wr 52 4 v ((xs.take k).map I.cells)) (fun _ i _ => n - (intOf i).toNat)
  case atStart => exact ⟨0, Nat.zero_le _, rfl, Below.refl _ _, own_nil _ _ _ _⟩
  case round =>
    obtain ⟨k, hk, rfl, hb, ho⟩ := hrel
    have HO := Lib.hid ho
    clear ho
    have hwr := hb.size
    by_cases hlt : k < n
    · have hkx : k < xs.length := by rw [← HN.out]; exact hlt
      obtain ⟨v, hv⟩ : ∃ v, xs[k]? = some v := ⟨_, List.getElem?_eq_getElem hkx⟩
      obtain ⟨h0, h1, h2, h3⟩ := (HC.out k v hv).below hb hg
      have HV := Lib.hid hv
      clear hv
      go_wp2_with fail
      refine wp_loop_rounds 1 ?_
      rw [rounds_succ]
      go_wp2_with (at_builtin; refine appI 54 52 under54 info52 _ (xs.take k) v _ _ rfl rfl rfl (by change Value.slice (some ⟨wr.heap.size + 1 + 1, 0, none⟩) 1 1 = _; simp) (HO.out.below (Below.alloc (Below.alloc (Below.refl _ _) (Nat.le_refl _) _) (by simp) _)) (Below.alloc (Below.alloc hb hwr _) (by simp; omega) _) (by rw [List.length_take]; omega) ?_; intro v1 w2 ho2 hb2)
      go_roundw
      case rel => exact ⟨k + 1, by omega, by go_num, hb2, by rw [take_succ_of HV.out]; exact ho2⟩
      case measure => simp [intOf]; omega
    · have hk' : k = xs.length := by rw [← HN.out]; omega
      go_wp2_with fail
      go_ret
      have := HO.out
      rw [hk', List.take_length] at this
      rw [HN.out]
      exact this.retI hb
set_option maxRecDepth 100000 in
set_option maxHeartbeats 1000000 in
theorem c27 (i : I) (w : World) : Calls Tryz.prog 27 #[.agg #[.int .i64 i.k, .float .f64 i.b, .string i.t, .slice none 0 0]] w (Ret w (.agg #[.int .i64 i.k, .float .f64 i.b, .string i.t, .slice none 0 0])) := by
  go_enter Tryz.func27, Tryz.ntmps27
  go_wp2_with fail
  refine wp_loop_rounds 1 ?_
  rw [rounds_succ]
  go_wp2_with fail
  exact bodyPost_ret (v := .agg #[.int .i64 i.k, .float .f64 i.b, .string i.t, .slice none 0 0]) (by first | (simp [results, Tryz.results27, go_sem, hc1, hz1]; done) | (simp [results, Tryz.results27, go_sem]; done) | (simp [results, Tryz.results27, go_sem, *]; done)) rfl (ret_mk (by repeat (first | (with_reducible exact Below.refl _ _) | (with_reducible assumption) | ((with_reducible refine Below.alloc ?_ ?_ _); rotate_left; focus (first | exact Nat.le_refl _ | omega | (simp; done) | (simp; omega))) | ((with_reducible refine Below.setCell ?_ ?_ _); rotate_left; focus (first | exact Nat.le_refl _ | omega | (simp; done) | (simp; omega))) | (with_reducible refine Below.drew ?_) | (with_reducible refine below_drewN ?_ _) | ((with_reducible refine below_via (by assumption) ?_ ?_); focus (first | exact Nat.le_refl _ | omega | (simp; done) | (simp; omega))))))
end Go.Proofs.YtkhgaenffnoimaaGreatDoor
/- EXACT of the implementation. -/
set_option linter.unusedSimpArgs false
set_option linter.unusedVariables false
namespace Go.Proofs.YtkhgaenffnoimaaGreatDoor
open Go.RowKit
attribute [local go_sem] run_store_float
theorem as64 (v : Value) (w : World) : (Instr.typeAssert (.iface 68 v) 20 68 false).run Tryz.prog w = .ok v w := by kernel_rfl
attribute [local go_sem] as64
def bt (b : Bool) : Nat := if b then 4607182418800017408 else 0
theorem keepS' {B : Nat} {w w1 w2 : World} (h : Below B w w1) (hB : B ≤ w1.heap.size) (k : Below w1.heap.size w1 w2) : Below B w w2 := below_then h hB k
theorem c92u (b : Bool) (w : World) : Calls Tryz.prog 92 #[.bool b] w (Ret w (.agg #[.string ⟨#[]⟩, .float .f64 (bt b), .string ⟨#[]⟩, .slice none 0 0, .slice none 0 0, .bool true, .string ⟨#[]⟩, .int .u8 1, .pointer none, .pointer none])) := c92 b w
set_option maxRecDepth 100000 in
set_option maxHeartbeats 2000000 in
theorem c46 (w : World) : Calls Tryz.prog 46 #[] w (RetV w fun v => ∃ p, v = .pointer p) := by
  go_enter Tryz.func46, Tryz.ntmps46
  go_wp2_with fail
  go_ret
  exact retV_mk _ ⟨_, rfl⟩ (by repeat (first | (with_reducible exact Below.refl _ _) | (with_reducible assumption) | ((with_reducible refine Below.alloc ?_ ?_ _); rotate_left; focus (first | exact Nat.le_refl _ | omega | (simp; done) | (simp; omega))) | ((with_reducible refine Below.setCell ?_ ?_ _); rotate_left; focus (first | exact Nat.le_refl _ | omega | (simp; done) | (simp; omega))) | (with_reducible refine Below.drew ?_) | (with_reducible refine below_drewN ?_ _) | ((with_reducible refine below_via (by assumption) ?_ ?_); focus (first | exact Nat.le_refl _ | omega | (simp; done) | (simp; omega)))))
end Go.Proofs.YtkhgaenffnoimaaGreatDoor
