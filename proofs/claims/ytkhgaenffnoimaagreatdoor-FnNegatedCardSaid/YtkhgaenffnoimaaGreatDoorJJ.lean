/- CONCATENATE of the implementation: Next, ToList. -/
import Derived.Test.YtkhgaenffnoimaaGreatDoorJC
import Derived.Lib.Builder
import Derived.LaidEql
set_option linter.unusedSimpArgs false
set_option linter.unusedVariables false
namespace Go.Proofs.YtkhgaenffnoimaaGreatDoor
open Go.RowKit
attribute [local go_sem] run_store_float as64
/-- Where the list's element i lies; nil behind the last. -/
def elP (bs : List Nat) (i : Nat) : Value := match bs[i]? with | some b => .pointer (some ⟨b, 0, none⟩) | none => .pointer none
theorem elP_some {bs : List Nat} {i b : Nat} (h : bs[i]? = some b) : elP bs i = .pointer (some ⟨b, 0, none⟩) := by unfold elP; rw [h]
theorem elP_none {bs : List Nat} {i : Nat} (h : bs.length ≤ i) : elP bs i = .pointer none := by unfold elP; rw [List.getElem?_eq_none h]
theorem cell_heap {w : World} {x o : Nat} {v : Value} (h : w.cell? ⟨x, o, none⟩ = some v) : ∃ c e f, w.heap[x]? = some (.cells c e f) := by
  unfold World.cell? at h
  cases hx : w.heap[x]? with
  | none => simp [hx] at h
  | some ob =>
    cases ob with
    | cells c e f => exact ⟨c, e, f, rfl⟩
    | _ => simp [hx] at h
theorem sameAddr_ne {P : Program} (w : World) {x y : Nat} {u v : Value} (hne : x ≠ y) (hu : w.cell? ⟨x, 0, none⟩ = some u) (hv : w.cell? ⟨y, 0, none⟩ = some v) (hx : ∀ o, w.frozen? ⟨x, o, none⟩ = false) (hy : ∀ o, w.frozen? ⟨y, o, none⟩ = false) :
    (sameAddr ⟨x, 0, none⟩ ⟨y, 0, none⟩).run P w = .ok false w := by
  obtain ⟨c, e, f, hc⟩ := cell_heap hu
  obtain ⟨c', e', f', hc'⟩ := cell_heap hv
  simp [sameAddr, hne, hx, hy, noView, viewAt, World.shape?, hc, hc', mayBeOne, stringish]
theorem info85 : (Tryz.prog.info? 85).isSome = true ∧ (Tryz.prog.info? 85).map (fun i => decide (i.size = 0)) = some false := ⟨by kernel_rfl, by kernel_rfl⟩
theorem run_neq_el (w : World) {x y : Nat} {u v : Value} (hne : x ≠ y) (hu : w.cell? ⟨x, 0, none⟩ = some u) (hv : w.cell? ⟨y, 0, none⟩ = some v) (hx : ∀ o, w.frozen? ⟨x, o, none⟩ = false) (hy : ∀ o, w.frozen? ⟨y, o, none⟩ = false) :
    (binOp .neq 82 (.pointer (some ⟨x, 0, none⟩)) (.pointer (some ⟨y, 0, none⟩))).run Tryz.prog w = .ok (.bool true) w := by
  obtain ⟨j, hj⟩ := Option.isSome_iff_exists.1 info85.1
  have hs : j.size ≠ 0 := by
    have h := info85.2
    rw [hj] at h
    simpa using h
  have h : ∀ d : Nat, (Op.equalIn (d + 1) 82 (.pointer (some ⟨x, 0, none⟩)) (.pointer (some ⟨y, 0, none⟩))).run Tryz.prog w = .ok false w := fun d => by
    simp [Op.equalIn, run_underlying Tryz.underlying82, sizeOf, typeInfo, hj, hs, sameAddr_ne w hne hu hv hx hy]
  simp only [binOp]
  simp [Op.equal, Op.maxDepth, h 9999]
theorem run_neq_el_same (w : World) (x : Nat) : (binOp .neq 82 (.pointer (some ⟨x, 0, none⟩)) (.pointer (some ⟨x, 0, none⟩))).run Tryz.prog w = .ok (.bool false) w := by
  obtain ⟨j, hj⟩ := Option.isSome_iff_exists.1 info85.1
  exact Lib.run_neq_ptr_same w ⟨x, 0, none⟩ Tryz.underlying82 hj
set_option maxRecDepth 100000 in
set_option maxHeartbeats 1000000 in
theorem c60 (L : Nat) (bs : List Nat) (vs : List Value) (i b : Nat) (w : World) (h : DL w L bs vs) (hi : bs[i]? = some b) :
    Calls Tryz.prog 60 #[.pointer (some ⟨b, 0, none⟩)] w (fun en w' => en = .returned (elP bs (i + 1)) ∧ w' = w) := by
  obtain ⟨h1, h2, h3, h4, h5, h6⟩ := h.el i b hi
  by_cases hn : i + 1 < bs.length
  · obtain ⟨b2, hb2⟩ : ∃ b2, bs[i + 1]? = some b2 := ⟨_, List.getElem?_eq_getElem hn⟩
    have hne : b2 ≠ L := (h.el (i + 1) b2 hb2).2.1
    rw [elP_some hb2]
    rw [hb2] at h3
    have h3' : w.cell? ⟨b, 0, none⟩ = some (.pointer (some ⟨b2, 0, none⟩)) := h3
    have hq := run_neq_el w hne (h.el (i + 1) b2 hb2).2.2.1 h.nxt (h.el (i + 1) b2 hb2).2.2.2.2.2 h.fr
    clear h3 h hi hb2 h5 h6
    go_enter Tryz.func60, Tryz.ntmps60
    go_wp2_with fail
    go_ret
    exact ⟨rfl, rfl⟩
  · rw [elP_none (by omega)]
    rw [List.getElem?_eq_none (by omega)] at h3
    have h3' : w.cell? ⟨b, 0, none⟩ = some (.pointer (some ⟨L, 0, none⟩)) := h3
    have hq := run_neq_el_same w L
    clear h3 h hi h5 h6
    go_enter Tryz.func60, Tryz.ntmps60
    go_wp2_with fail
    go_ret
    exact ⟨rfl, rfl⟩
/-- The cells of a text as a formula argument. -/
structure SCell (w : World) (g : Nat) (t : ByteArray) : Prop where
  lt : g < w.heap.size
  c0 : w.cell? ⟨g, 0, none⟩ = some (.string ⟨#[]⟩)
  c1 : w.cell? ⟨g, 1, none⟩ = some (.float .f64 0)
  c2 : w.cell? ⟨g, 2, none⟩ = some (.string t)
  c3 : w.cell? ⟨g, 3, none⟩ = some (.slice none 0 0)
  c4 : w.cell? ⟨g, 4, none⟩ = some (.slice none 0 0)
  c5 : w.cell? ⟨g, 5, none⟩ = some (.bool false)
  c6 : w.cell? ⟨g, 6, none⟩ = some (.string ⟨#[]⟩)
  c7 : w.cell? ⟨g, 7, none⟩ = some (.int .u8 2)
  c8 : w.cell? ⟨g, 8, none⟩ = some (.pointer none)
  c9 : w.cell? ⟨g, 9, none⟩ = some (.pointer none)
set_option maxRecDepth 100000 in
set_option maxHeartbeats 1000000 in
theorem c72 (t : ByteArray) (w : World) : Calls Tryz.prog 72 #[fS t] w (fun e w' => ∃ g, e = .returned (.slice (some ⟨g, 0, none⟩) 1 1) ∧ SCell w' g t ∧ Below w.heap.size w w') := by
  unfold fS
  go_enter Tryz.func72, Tryz.ntmps72
  go_wp2_with fail
  go_ret
  refine ⟨_, rfl, ⟨?_, ?_, ?_, ?_, ?_, ?_, ?_, ?_, ?_, ?_, ?_⟩, (by repeat (first | (with_reducible exact Below.refl _ _) | (with_reducible assumption) | ((with_reducible refine Below.alloc ?_ ?_ _); rotate_left; focus (first | exact Nat.le_refl _ | omega | (simp; done) | (simp; omega))) | ((with_reducible refine Below.setCell ?_ ?_ _); rotate_left; focus (first | exact Nat.le_refl _ | omega | (simp; done) | (simp; omega))) | (with_reducible refine Below.drew ?_) | (with_reducible refine below_drewN ?_ _) | ((with_reducible refine below_via (by assumption) ?_ ?_); focus (first | exact Nat.le_refl _ | omega | (simp; done) | (simp; omega)))))⟩
  all_goals first | (simp; done) | (simp [go_sem]; done) | (simp; omega)
end Go.Proofs.YtkhgaenffnoimaaGreatDoor
