/- CODE of the implementation. -/
import Derived.Test.YtkhgaenffnoimaaGreatDoorJ1
import Derived.Test.YtkhgaenffnoimaaGreatDoorF0
set_option linter.unusedSimpArgs false
set_option linter.unusedVariables false
namespace Go.Proofs.YtkhgaenffnoimaaGreatDoor
open Go.RowKit
attribute [local go_sem] run_store_float as64
/-- Block b is a new formula argument's, free to be written. -/
structure Z64 (w : World) (b : Nat) : Prop where
  lt : b < w.heap.size
  c0 : w.cell? ⟨b, 0, none⟩ = some (.string ⟨#[]⟩)
  c1 : w.cell? ⟨b, 1, none⟩ = some (.float .f64 0)
  c2 : w.cell? ⟨b, 2, none⟩ = some (.string ⟨#[]⟩)
  c3 : w.cell? ⟨b, 3, none⟩ = some (.slice none 0 0)
  c4 : w.cell? ⟨b, 4, none⟩ = some (.slice none 0 0)
  c5 : w.cell? ⟨b, 5, none⟩ = some (.bool false)
  c6 : w.cell? ⟨b, 6, none⟩ = some (.string ⟨#[]⟩)
  c7 : w.cell? ⟨b, 7, none⟩ = some (.int .u8 0)
  c8 : w.cell? ⟨b, 8, none⟩ = some (.pointer none)
  c9 : w.cell? ⟨b, 9, none⟩ = some (.pointer none)
  fr : ∀ o, w.frozen? ⟨b, o, none⟩ = false
theorem Z64.below {w w1 : World} {b : Nat} (h : Z64 w b) (hb : Below w.heap.size w w1) : Z64 w1 b :=
  ⟨Nat.lt_of_lt_of_le h.lt hb.size, (hb.cell (p := ⟨b, _, none⟩) h.lt).trans h.c0, (hb.cell (p := ⟨b, _, none⟩) h.lt).trans h.c1, (hb.cell (p := ⟨b, _, none⟩) h.lt).trans h.c2, (hb.cell (p := ⟨b, _, none⟩) h.lt).trans h.c3, (hb.cell (p := ⟨b, _, none⟩) h.lt).trans h.c4,
    (hb.cell (p := ⟨b, _, none⟩) h.lt).trans h.c5, (hb.cell (p := ⟨b, _, none⟩) h.lt).trans h.c6, (hb.cell (p := ⟨b, _, none⟩) h.lt).trans h.c7, (hb.cell (p := ⟨b, _, none⟩) h.lt).trans h.c8, (hb.cell (p := ⟨b, _, none⟩) h.lt).trans h.c9, fun o => (hb.frozen (p := ⟨b, o, none⟩) h.lt).trans (h.fr o)⟩
theorem z64_new (w : World) (t : TypeId) : Z64 (w.alloc (.cells #[.string ⟨#[]⟩, .float .f64 0, .string ⟨#[]⟩, .slice none 0 0, .slice none 0 0, .bool false, .string ⟨#[]⟩, .int .u8 0, .pointer none, .pointer none] t)) w.heap.size :=
  ⟨by simp, by simp [go_sem], by simp [go_sem], by simp [go_sem], by simp [go_sem], by simp [go_sem], by simp [go_sem], by simp [go_sem], by simp [go_sem], by simp [go_sem], by simp [go_sem], fun o => frozen_alloc _ _ _ _⟩
/-- Block b is a new value of the implementation's, free to be written. -/
structure ZI (w : World) (b : Nat) : Prop where
  lt : b < w.heap.size
  c0 : w.cell? ⟨b, 0, none⟩ = some (.int .i64 0)
  c1 : w.cell? ⟨b, 1, none⟩ = some (.float .f64 0)
  c2 : w.cell? ⟨b, 2, none⟩ = some (.string ⟨#[]⟩)
  c3 : w.cell? ⟨b, 3, none⟩ = some (.slice none 0 0)
  fr : ∀ o, w.frozen? ⟨b, o, none⟩ = false
theorem ZI.below {w w1 : World} {b : Nat} (h : ZI w b) (hb : Below w.heap.size w w1) : ZI w1 b :=
  ⟨Nat.lt_of_lt_of_le h.lt hb.size, (hb.cell (p := ⟨b, _, none⟩) h.lt).trans h.c0, (hb.cell (p := ⟨b, _, none⟩) h.lt).trans h.c1, (hb.cell (p := ⟨b, _, none⟩) h.lt).trans h.c2, (hb.cell (p := ⟨b, _, none⟩) h.lt).trans h.c3, fun o => (hb.frozen (p := ⟨b, o, none⟩) h.lt).trans (h.fr o)⟩
theorem zi_new (w : World) (t : TypeId) : ZI (w.alloc (.cells #[.int .i64 0, .float .f64 0, .string ⟨#[]⟩, .slice none 0 0] t)) w.heap.size :=
  ⟨by simp, by simp [go_sem], by simp [go_sem], by simp [go_sem], by simp [go_sem], fun o => frozen_alloc _ _ _ _⟩
set_option maxRecDepth 100000 in
theorem c88 (b : Nat) (w : World) (h : FloatKind.f64.format.order b b = some Ordering.eq) : Calls Tryz.prog 88 #[.float .f64 b] w (fun e w' => e = .returned (.bool false) ∧ w' = w) := by
  go_enter Tryz.func88, Tryz.ntmps88
  go_wp2_with fail
  go_ret
  exact ⟨by simp [h], rfl⟩
set_option maxRecDepth 100000 in
set_option maxHeartbeats 1000000 in
theorem c63 (b : Nat) (w : World) (h : FloatKind.f64.format.order b b = some Ordering.eq) (hz : FloatKind.f64.format.order b 0 = some Ordering.eq → b = 0) :
    Calls Tryz.prog 63 #[.float .f64 b] w (Ret w (.agg #[.string ⟨#[]⟩, .float .f64 b, .string ⟨#[]⟩, .slice none 0 0, .slice none 0 0, .bool false, .string ⟨#[]⟩, .int .u8 1, .pointer none, .pointer none])) := by
  by_cases hq : FloatKind.f64.format.order b 0 = some Ordering.eq
  · obtain rfl := hz hq
    go_enter Tryz.func63, Tryz.ntmps63
    go_wp2_with (go_at_call 88; refine (c88 0 _ h).mono ?_; rintro e w1 ⟨rfl, rfl⟩)
    (refine bodyPost_ret (v := .agg #[.string ⟨#[]⟩, .float .f64 0, .string ⟨#[]⟩, .slice none 0 0, .slice none 0 0, .bool false, .string ⟨#[]⟩, .int .u8 1, .pointer none, .pointer none]) ?_ rfl ?_; (focus (first | (simp [results, Tryz.results63, go_sem, hc1, hz1]; done) | (simp [results, Tryz.results63, go_sem]; done) | (simp [results, Tryz.results63, go_sem, *]; done))); exact ret_mk (by repeat (first | (with_reducible exact Below.refl _ _) | (with_reducible assumption) | ((with_reducible refine Below.alloc ?_ ?_ _); rotate_left; focus (first | exact Nat.le_refl _ | omega | (simp; done) | (simp; omega))) | ((with_reducible refine Below.setCell ?_ ?_ _); rotate_left; focus (first | exact Nat.le_refl _ | omega | (simp; done) | (simp; omega))) | (with_reducible refine Below.drew ?_) | (with_reducible refine below_drewN ?_ _) | ((with_reducible refine below_via (by assumption) ?_ ?_); focus (first | exact Nat.le_refl _ | omega | (simp; done) | (simp; omega))))))
  · have hq' : (FloatKind.f64.format.order b 0 == some Ordering.eq) = false := by simpa using hq
    clear hq hz
    go_enter Tryz.func63, Tryz.ntmps63
    go_wp2_with (go_at_call 88; refine (c88 b _ h).mono ?_; rintro e w1 ⟨rfl, rfl⟩)
    (refine bodyPost_ret (v := .agg #[.string ⟨#[]⟩, .float .f64 b, .string ⟨#[]⟩, .slice none 0 0, .slice none 0 0, .bool false, .string ⟨#[]⟩, .int .u8 1, .pointer none, .pointer none]) ?_ rfl ?_; (focus (first | (simp [results, Tryz.results63, go_sem, hc1, hz1]; done) | (simp [results, Tryz.results63, go_sem]; done) | (simp [results, Tryz.results63, go_sem, *]; done))); exact ret_mk (by repeat (first | (with_reducible exact Below.refl _ _) | (with_reducible assumption) | ((with_reducible refine Below.alloc ?_ ?_ _); rotate_left; focus (first | exact Nat.le_refl _ | omega | (simp; done) | (simp; omega))) | ((with_reducible refine Below.setCell ?_ ?_ _); rotate_left; focus (first | exact Nat.le_refl _ | omega | (simp; done) | (simp; omega))) | (with_reducible refine Below.drew ?_) | (with_reducible refine below_drewN ?_ _) | ((with_reducible refine below_via (by assumption) ?_ ?_); focus (first | exact Nat.le_refl _ | omega | (simp; done) | (simp; omega))))))
def FOK (b : Nat) : Prop := FloatKind.f64.format.order b b = some Ordering.eq ∧ (FloatKind.f64.format.order b 0 = some Ordering.eq → b = 0)
theorem c63' (b : Nat) (w : World) (h : FOK b) :
    Calls Tryz.prog 63 #[.float .f64 b] w (Ret w (.agg #[.string ⟨#[]⟩, .float .f64 b, .string ⟨#[]⟩, .slice none 0 0, .slice none 0 0, .bool false, .string ⟨#[]⟩, .int .u8 1, .pointer none, .pointer none])) := c63 b w h.1 h.2
theorem foi_ok (n : Int) (h : n.natAbs < 562949953421312) : FOK (floatOfInt FloatKind.f64 n) := ⟨foi_order n h, foi_zero n h⟩
set_option maxRecDepth 100000 in
set_option maxHeartbeats 2000000 in
theorem c45_N (b : Nat) (w : World) : Calls Tryz.prog 45 #[fN b] w (Ret w (.agg #[.int .i64 1, .float .f64 b, .string ⟨#[]⟩, .slice none 0 0])) := by
  unfold fN
  go_enter Tryz.func45, Tryz.ntmps45
  go_wp2_with fail
  exact bodyPost_ret (v := .agg #[.int .i64 1, .float .f64 b, .string ⟨#[]⟩, .slice none 0 0]) (by first | (simp [results, Tryz.results45, go_sem, hc1, hz1]; done) | (simp [results, Tryz.results45, go_sem]; done) | (simp [results, Tryz.results45, go_sem, *]; done)) rfl (ret_mk (by repeat (first | (with_reducible exact Below.refl _ _) | (with_reducible assumption) | ((with_reducible refine Below.alloc ?_ ?_ _); rotate_left; focus (first | exact Nat.le_refl _ | omega | (simp; done) | (simp; omega))) | ((with_reducible refine Below.setCell ?_ ?_ _); rotate_left; focus (first | exact Nat.le_refl _ | omega | (simp; done) | (simp; omega))) | (with_reducible refine Below.drew ?_) | (with_reducible refine below_drewN ?_ _) | ((with_reducible refine below_via (by assumption) ?_ ?_); focus (first | exact Nat.le_refl _ | omega | (simp; done) | (simp; omega))))))
theorem fok0 : FOK 0 := by
  have h := foi_ok 0 (by decide)
  rw [foi0] at h
  exact h
end Go.Proofs.YtkhgaenffnoimaaGreatDoor
