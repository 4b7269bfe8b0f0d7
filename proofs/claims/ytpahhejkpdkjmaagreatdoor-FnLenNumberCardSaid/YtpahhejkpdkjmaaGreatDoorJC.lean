/- CODE of the implementation. -/
import Derived.Test.YtpahhejkpdkjmaaGreatDoorJ4
import Derived.Test.YtpahhejkpdkjmaaGreatDoorF0
set_option linter.unusedSimpArgs false
set_option linter.unusedVariables false
namespace Go.Proofs.YtpahhejkpdkjmaaGreatDoor
open Go.RowKit
attribute [local go_sem] run_store_float as64
/-- Block b is a new formula argument's, free to be written. -/
structure Z64 (w : World) (b : Nat) : Prop where
  lt : b < w.heap.size
  c0 : w.cell? ⟨b, 0, none⟩ = some (.string ⟨#[]⟩)
  c1 : w.cell? ⟨b, 1, none⟩ = some (.float .f64 0)
  c2 : w.cell? ⟨b, 2, none⟩ = some (.string ⟨#[]⟩)
  c3 : w.cell? ⟨b, 3, none⟩ = some (.slice none 0 0)
  c4 : w.cell? ⟨b, 4, none⟩ = some (.slice none 0 0)
  c5 : w.cell? ⟨b, 5, none⟩ = some (.bool false)
  c6 : w.cell? ⟨b, 6, none⟩ = some (.string ⟨#[]⟩)
  c7 : w.cell? ⟨b, 7, none⟩ = some (.int .u8 0)
  c8 : w.cell? ⟨b, 8, none⟩ = some (.pointer none)
  c9 : w.cell? ⟨b, 9, none⟩ = some (.pointer none)
  fr : ∀ o, w.frozen? ⟨b, o, none⟩ = false
theorem Z64.below {w w1 : World} {b : Nat} (h : Z64 w b) (hb : Below w.heap.size w w1) : Z64 w1 b :=
  ⟨Nat.lt_of_lt_of_le h.lt hb.size, (hb.cell (p := ⟨b, _, none⟩) h.lt).trans h.c0, (hb.cell (p := ⟨b, _, none⟩) h.lt).trans h.c1, (hb.cell (p := ⟨b, _, none⟩) h.lt).trans h.c2, (hb.cell (p := ⟨b, _, none⟩) h.lt).trans h.c3, (hb.cell (p := ⟨b, _, none⟩) h.lt).trans h.c4,
    (hb.cell (p := ⟨b, _, none⟩) h.lt).trans h.c5, (hb.cell (p := ⟨b, _, none⟩) h.lt).trans h.c6, (hb.cell (p := ⟨b, _, none⟩) h.lt).trans h.c7, (hb.cell (p := ⟨b, _, none⟩) h.lt).trans h.c8, (hb.cell (p := ⟨b, _, none⟩) h.lt).trans h.c9, fun o => (hb.frozen (p := ⟨b, o, none⟩) h.lt).trans (h.fr o)⟩
theorem z64_new (w : World) : Z64 (w.alloc (.cells #[.string ⟨#[]⟩, .float .f64 0, .string ⟨#[]⟩, .slice none 0 0, .slice none 0 0, .bool false, .string ⟨#[]⟩, .int .u8 0, .pointer none, .pointer none] 64)) w.heap.size :=
  ⟨by simp, by simp [go_sem], by simp [go_sem], by simp [go_sem], by simp [go_sem], by simp [go_sem], by simp [go_sem], by simp [go_sem], by simp [go_sem], by simp [go_sem], by simp [go_sem], fun o => frozen_alloc _ _ _ _⟩
/-- Block b is a new value of the implementation's, free to be written. -/
structure ZI (w : World) (b : Nat) : Prop where
  lt : b < w.heap.size
  c0 : w.cell? ⟨b, 0, none⟩ = some (.int .i64 0)
  c1 : w.cell? ⟨b, 1, none⟩ = some (.float .f64 0)
  c2 : w.cell? ⟨b, 2, none⟩ = some (.string ⟨#[]⟩)
  c3 : w.cell? ⟨b, 3, none⟩ = some (.slice none 0 0)
  fr : ∀ o, w.frozen? ⟨b, o, none⟩ = false
theorem ZI.below {w w1 : World} {b : Nat} (h : ZI w b) (hb : Below w.heap.size w w1) : ZI w1 b :=
  ⟨Nat.lt_of_lt_of_le h.lt hb.size, (hb.cell (p := ⟨b, _, none⟩) h.lt).trans h.c0, (hb.cell (p := ⟨b, _, none⟩) h.lt).trans h.c1, (hb.cell (p := ⟨b, _, none⟩) h.lt).trans h.c2, (hb.cell (p := ⟨b, _, none⟩) h.lt).trans h.c3, fun o => (hb.frozen (p := ⟨b, o, none⟩) h.lt).trans (h.fr o)⟩
theorem zi_new (w : World) (t : TypeId) : ZI (w.alloc (.cells #[.int .i64 0, .float .f64 0, .string ⟨#[]⟩, .slice none 0 0] t)) w.heap.size :=
  ⟨by simp, by simp [go_sem], by simp [go_sem], by simp [go_sem], by simp [go_sem], fun o => frozen_alloc _ _ _ _⟩
set_option maxRecDepth 100000 in
theorem c138 (b : Nat) (w : World) (h : FloatKind.f64.format.order b b = some Ordering.eq) : Calls Tryz.prog 138 #[.float .f64 b] w (fun e w' => e = .returned (.bool false) ∧ w' = w) := by
  go_enter Tryz.func138, Tryz.ntmps138
  go_wp2_with fail
  go_ret
  exact ⟨by simp [h], rfl⟩
set_option maxRecDepth 100000 in
set_option maxHeartbeats 1000000 in
theorem c59 (b : Nat) (w : World) (h : FloatKind.f64.format.order b b = some Ordering.eq) (hz : FloatKind.f64.format.order b 0 = some Ordering.eq → b = 0) :
    Calls Tryz.prog 59 #[.float .f64 b] w (Ret w (.agg #[.string ⟨#[]⟩, .float .f64 b, .string ⟨#[]⟩, .slice none 0 0, .slice none 0 0, .bool false, .string ⟨#[]⟩, .int .u8 1, .pointer none, .pointer none])) := by
  by_cases hq : FloatKind.f64.format.order b 0 = some Ordering.eq
  · obtain rfl := hz hq
    go_enter Tryz.func59, Tryz.ntmps59
    go_wp2_with (go_at_call 138; refine (c138 0 _ h).mono ?_; rintro e w1 ⟨rfl, rfl⟩)
    (refine bodyPost_ret (v := .agg #[.string ⟨#[]⟩, .float .f64 0, .string ⟨#[]⟩, .slice none 0 0, .slice none 0 0, .bool false, .string ⟨#[]⟩, .int .u8 1, .pointer none, .pointer none]) ?_ rfl ?_; (focus (first | (simp [results, Tryz.results59, go_sem, hc1, hz1]; done) | (simp [results, Tryz.results59, go_sem]; done) | (simp [results, Tryz.results59, go_sem, *]; done))); exact ret_mk (by repeat (first | (with_reducible exact Below.refl _ _) | (with_reducible assumption) | ((with_reducible refine Below.alloc ?_ ?_ _); rotate_left; focus (first | exact Nat.le_refl _ | omega | (simp; done) | (simp; omega))) | ((with_reducible refine Below.setCell ?_ ?_ _); rotate_left; focus (first | exact Nat.le_refl _ | omega | (simp; done) | (simp; omega))) | (with_reducible refine Below.drew ?_) | (with_reducible refine below_drewN ?_ _) | ((with_reducible refine below_via (by assumption) ?_ ?_); focus (first | exact Nat.le_refl _ | omega | (simp; done) | (simp; omega))))))
  · have hq' : (FloatKind.f64.format.order b 0 == some Ordering.eq) = false := by simpa using hq
    clear hq hz
    go_enter Tryz.func59, Tryz.ntmps59
    go_wp2_with (go_at_call 138; refine (c138 b _ h).mono ?_; rintro e w1 ⟨rfl, rfl⟩)
    (refine bodyPost_ret (v := .agg #[.string ⟨#[]⟩, .float .f64 b, .string ⟨#[]⟩, .slice none 0 0, .slice none 0 0, .bool false, .string ⟨#[]⟩, .int .u8 1, .pointer none, .pointer none]) ?_ rfl ?_; (focus (first | (simp [results, Tryz.results59, go_sem, hc1, hz1]; done) | (simp [results, Tryz.results59, go_sem]; done) | (simp [results, Tryz.results59, go_sem, *]; done))); exact ret_mk (by repeat (first | (with_reducible exact Below.refl _ _) | (with_reducible assumption) | ((with_reducible refine Below.alloc ?_ ?_ _); rotate_left; focus (first | exact Nat.le_refl _ | omega | (simp; done) | (simp; omega))) | ((with_reducible refine Below.setCell ?_ ?_ _); rotate_left; focus (first | exact Nat.le_refl _ | omega | (simp; done) | (simp; omega))) | (with_reducible refine Below.drew ?_) | (with_reducible refine below_drewN ?_ _) | ((with_reducible refine below_via (by assumption) ?_ ?_); focus (first | exact Nat.le_refl _ | omega | (simp; done) | (simp; omega))))))
def FOK (b : Nat) : Prop := FloatKind.f64.format.order b b = some Ordering.eq ∧ (FloatKind.f64.format.order b 0 = some Ordering.eq → b = 0)
theorem c59' (b : Nat) (w : World) (h : FOK b) :
    Calls Tryz.prog 59 #[.float .f64 b] w (Ret w (.agg #[.string ⟨#[]⟩, .float .f64 b, .string ⟨#[]⟩, .slice none 0 0, .slice none 0 0, .bool false, .string ⟨#[]⟩, .int .u8 1, .pointer none, .pointer none])) := c59 b w h.1 h.2
theorem foi_ok (n : Int) (h : n.natAbs < 562949953421312) : FOK (floatOfInt FloatKind.f64 n) := ⟨foi_order n h, foi_zero n h⟩
set_option maxRecDepth 100000 in
set_option maxHeartbeats 2000000 in
theorem c32_N (b : Nat) (w : World) : Calls Tryz.prog 32 #[fN b] w (Ret w (.agg #[.int .i64 1, .float .f64 b, .string ⟨#[]⟩, .slice none 0 0])) := by
  unfold fN
  go_enter Tryz.func32, Tryz.ntmps32
  go_wp2_with fail
  exact bodyPost_ret (v := .agg #[.int .i64 1, .float .f64 b, .string ⟨#[]⟩, .slice none 0 0]) (by first | (simp [results, Tryz.results32, go_sem, hc1, hz1]; done) | (simp [results, Tryz.results32, go_sem]; done) | (simp [results, Tryz.results32, go_sem, *]; done)) rfl (ret_mk (by repeat (first | (with_reducible exact Below.refl _ _) | (with_reducible assumption) | ((with_reducible refine Below.alloc ?_ ?_ _); rotate_left; focus (first | exact Nat.le_refl _ | omega | (simp; done) | (simp; omega))) | ((with_reducible refine Below.setCell ?_ ?_ _); rotate_left; focus (first | exact Nat.le_refl _ | omega | (simp; done) | (simp; omega))) | (with_reducible refine Below.drew ?_) | (with_reducible refine below_drewN ?_ _) | ((with_reducible refine below_via (by assumption) ?_ ?_); focus (first | exact Nat.le_refl _ | omega | (simp; done) | (simp; omega))))))
/-- The bits of what CODE says of the text s. -/
def codeB (s : ByteArray) : Nat := if h : 0 < s.size then floatOfInt FloatKind.f64 (s[0].toNat : Int) else 0
theorem fok0 : FOK 0 := by
  have h := foi_ok 0 (by decide)
  rw [foi0] at h
  exact h
set_option maxRecDepth 100000 in
set_option maxHeartbeats 1000000 in
theorem c58 (p : Option Addr) (L b1 : Nat) (s : ByteArray) (w : World) (h : DL w L [b1] [.iface 64 (fS s)]) :
    Calls Tryz.prog 58 #[.pointer p, .string ⟨#[67, 79, 68, 69]⟩, .pointer (some ⟨L, 0, none⟩)] w (Ret w (fN (codeB s))) := by
  obtain ⟨_, _, _, _, e3, _⟩ := h.el 0 b1 rfl
  have HD := Lib.hid h
  have l1 := (h.el 0 b1 rfl).1
  clear h
  have he3 : w.cell? ⟨b1, 3, none⟩ = some (.iface 64 (fS s)) := e3
  clear e3
  unfold fN
  by_cases hp : 0 < s.size
  · have hC : floatOfInt FloatKind.f64 (s[0].toNat : Int) = codeB s := by unfold codeB; rw [dif_pos hp]
    have hk : FOK (floatOfInt FloatKind.f64 (s[0].toNat : Int)) := foi_ok _ (by have := s[0].toNat_lt; omega)
    rw [hC] at hk
    have HK := Lib.hid hk
    have HCB := Lib.hid hC
    clear hk hC
    generalize codeB s = x at HK HCB ⊢
    go_enter Tryz.func58, Tryz.ntmps58
    go_wp2_with fail
    have HZ0 : Hid (DL (w.alloc (.cells #[.string ⟨#[]⟩, .float .f64 0, .string ⟨#[]⟩, .slice none 0 0, .slice none 0 0, .bool false, .string ⟨#[]⟩, .int .u8 0, .pointer none, .pointer none] 64)) L [b1] [.iface 64 (fS s)]) := Lib.hid (HD.out.below (by repeat (first | (with_reducible exact Below.refl _ _) | (with_reducible assumption) | ((with_reducible refine Below.alloc ?_ ?_ _); rotate_left; focus (first | exact Nat.le_refl _ | omega | (simp; done) | (simp; omega))) | ((with_reducible refine Below.setCell ?_ ?_ _); rotate_left; focus (first | exact Nat.le_refl _ | omega | (simp; done) | (simp; omega))) | (with_reducible refine Below.drew ?_) | (with_reducible refine below_drewN ?_ _) | ((with_reducible refine below_via (by assumption) ?_ ?_); focus (first | exact Nat.le_refl _ | omega | (simp; done) | (simp; omega))))))
    have lw1 : b1 < (w.alloc (.cells #[.string ⟨#[]⟩, .float .f64 0, .string ⟨#[]⟩, .slice none 0 0, .slice none 0 0, .bool false, .string ⟨#[]⟩, .int .u8 0, .pointer none, .pointer none] 64)).heap.size := by simp; omega
    have HZ := Lib.hid (z64_new w)
    have hbA : Below w.heap.size w (w.alloc (.cells #[.string ⟨#[]⟩, .float .f64 0, .string ⟨#[]⟩, .slice none 0 0, .slice none 0 0, .bool false, .string ⟨#[]⟩, .int .u8 0, .pointer none, .pointer none] 64)) := (by repeat (first | (with_reducible exact Below.refl _ _) | (with_reducible assumption) | ((with_reducible refine Below.alloc ?_ ?_ _); rotate_left; focus (first | exact Nat.le_refl _ | omega | (simp; done) | (simp; omega))) | ((with_reducible refine Below.setCell ?_ ?_ _); rotate_left; focus (first | exact Nat.le_refl _ | omega | (simp; done) | (simp; omega))) | (with_reducible refine Below.drew ?_) | (with_reducible refine below_drewN ?_ _) | ((with_reducible refine below_via (by assumption) ?_ ?_); focus (first | exact Nat.le_refl _ | omega | (simp; done) | (simp; omega)))))
    go_wp2_with (first
      | (go_at_call 49; refine (c49 L [b1] _ _ HZ0.out).mono ?_; rintro e w1 ⟨rfl, rfl⟩)
      | (go_at_call 51; refine (c51 L [b1] _ _ HZ0.out (Nat.succ_pos 0)).mono ?_; rintro e w1 ⟨rfl, rfl⟩)
      | (go_at_call 52; refine (c52_S s _).mono ?_; rintro e w1 ⟨rfl, hb1⟩; have HZ1 := Lib.hid (HZ.out.below hb1)))
    rw [HCB.out]
    refine (c59' x _ HK.out).mono ?_
    rintro e w2 ⟨rfl, hb2⟩
    obtain ⟨zs, z0, z1, z2, z3, z4, z5, z6, z7, z8, z9, zf⟩ := HZ1.out.below hb2
    have hfin : Below w.heap.size w w2 := keepS' hbA (by simp) (keepS hb2 hb1)
    clear HZ HZ0 HZ1 HD hb1 hb2 he3 lw1 l1
    go_wp2_with fail
    (refine bodyPost_ret (v := .agg #[.string ⟨#[]⟩, .float .f64 x, .string ⟨#[]⟩, .slice none 0 0, .slice none 0 0, .bool false, .string ⟨#[]⟩, .int .u8 1, .pointer none, .pointer none]) ?_ rfl ?_; (focus (first | (simp [results, Tryz.results58, go_sem, hc1, hz1]; done) | (simp [results, Tryz.results58, go_sem]; done) | (simp [results, Tryz.results58, go_sem, *]; done))); exact ret_mk (by repeat (first | (with_reducible exact Below.refl _ _) | (with_reducible assumption) | ((with_reducible refine Below.alloc ?_ ?_ _); rotate_left; focus (first | exact Nat.le_refl _ | omega | (simp; done) | (simp; omega))) | ((with_reducible refine Below.setCell ?_ ?_ _); rotate_left; focus (first | exact Nat.le_refl _ | omega | (simp; done) | (simp; omega))) | (with_reducible refine Below.drew ?_) | (with_reducible refine below_drewN ?_ _) | ((with_reducible refine below_via (by assumption) ?_ ?_); focus (first | exact Nat.le_refl _ | omega | (simp; done) | (simp; omega))))))
  · have hC : codeB s = 0 := by unfold codeB; rw [dif_neg hp]
    rw [hC]
    clear hC
    go_enter Tryz.func58, Tryz.ntmps58
    go_wp2_with fail
    have HZ0 : Hid (DL (w.alloc (.cells #[.string ⟨#[]⟩, .float .f64 0, .string ⟨#[]⟩, .slice none 0 0, .slice none 0 0, .bool false, .string ⟨#[]⟩, .int .u8 0, .pointer none, .pointer none] 64)) L [b1] [.iface 64 (fS s)]) := Lib.hid (HD.out.below (by repeat (first | (with_reducible exact Below.refl _ _) | (with_reducible assumption) | ((with_reducible refine Below.alloc ?_ ?_ _); rotate_left; focus (first | exact Nat.le_refl _ | omega | (simp; done) | (simp; omega))) | ((with_reducible refine Below.setCell ?_ ?_ _); rotate_left; focus (first | exact Nat.le_refl _ | omega | (simp; done) | (simp; omega))) | (with_reducible refine Below.drew ?_) | (with_reducible refine below_drewN ?_ _) | ((with_reducible refine below_via (by assumption) ?_ ?_); focus (first | exact Nat.le_refl _ | omega | (simp; done) | (simp; omega))))))
    have lw1 : b1 < (w.alloc (.cells #[.string ⟨#[]⟩, .float .f64 0, .string ⟨#[]⟩, .slice none 0 0, .slice none 0 0, .bool false, .string ⟨#[]⟩, .int .u8 0, .pointer none, .pointer none] 64)).heap.size := by simp; omega
    have HZ := Lib.hid (z64_new w)
    have hbA : Below w.heap.size w (w.alloc (.cells #[.string ⟨#[]⟩, .float .f64 0, .string ⟨#[]⟩, .slice none 0 0, .slice none 0 0, .bool false, .string ⟨#[]⟩, .int .u8 0, .pointer none, .pointer none] 64)) := (by repeat (first | (with_reducible exact Below.refl _ _) | (with_reducible assumption) | ((with_reducible refine Below.alloc ?_ ?_ _); rotate_left; focus (first | exact Nat.le_refl _ | omega | (simp; done) | (simp; omega))) | ((with_reducible refine Below.setCell ?_ ?_ _); rotate_left; focus (first | exact Nat.le_refl _ | omega | (simp; done) | (simp; omega))) | (with_reducible refine Below.drew ?_) | (with_reducible refine below_drewN ?_ _) | ((with_reducible refine below_via (by assumption) ?_ ?_); focus (first | exact Nat.le_refl _ | omega | (simp; done) | (simp; omega)))))
    go_wp2_with (first
      | (go_at_call 49; refine (c49 L [b1] _ _ HZ0.out).mono ?_; rintro e w1 ⟨rfl, rfl⟩)
      | (go_at_call 51; refine (c51 L [b1] _ _ HZ0.out (Nat.succ_pos 0)).mono ?_; rintro e w1 ⟨rfl, rfl⟩)
      | (go_at_call 52; refine (c52_S s _).mono ?_; rintro e w1 ⟨rfl, hb1⟩; have HZ1 := Lib.hid (HZ.out.below hb1)))
    refine (c59' 0 _ fok0).mono ?_
    rintro e w2 ⟨rfl, hb2⟩
    obtain ⟨zs, z0, z1, z2, z3, z4, z5, z6, z7, z8, z9, zf⟩ := HZ1.out.below hb2
    have hfin : Below w.heap.size w w2 := keepS' hbA (by simp) (keepS hb2 hb1)
    clear HZ HZ0 HZ1 HD hb1 hb2 he3 lw1 l1
    go_wp2_with fail
    (refine bodyPost_ret (v := .agg #[.string ⟨#[]⟩, .float .f64 0, .string ⟨#[]⟩, .slice none 0 0, .slice none 0 0, .bool false, .string ⟨#[]⟩, .int .u8 1, .pointer none, .pointer none]) ?_ rfl ?_; (focus (first | (simp [results, Tryz.results58, go_sem, hc1, hz1]; done) | (simp [results, Tryz.results58, go_sem]; done) | (simp [results, Tryz.results58, go_sem, *]; done))); exact ret_mk (by repeat (first | (with_reducible exact Below.refl _ _) | (with_reducible assumption) | ((with_reducible refine Below.alloc ?_ ?_ _); rotate_left; focus (first | exact Nat.le_refl _ | omega | (simp; done) | (simp; omega))) | ((with_reducible refine Below.setCell ?_ ?_ _); rotate_left; focus (first | exact Nat.le_refl _ | omega | (simp; done) | (simp; omega))) | (with_reducible refine Below.drew ?_) | (with_reducible refine below_drewN ?_ _) | ((with_reducible refine below_via (by assumption) ?_ ?_); focus (first | exact Nat.le_refl _ | omega | (simp; done) | (simp; omega))))))
set_option maxRecDepth 100000 in
set_option maxHeartbeats 1000000 in
theorem c36 (p : Option Addr) (L b1 : Nat) (s : ByteArray) (w : World) (h : DL w L [b1] [.iface 64 (fS s)]) :
    Calls Tryz.prog 36 #[.pointer p, .pointer (some ⟨L, 0, none⟩)] w (Ret w (fN (codeB s))) := by
  have HD := Lib.hid h
  clear h
  have HZ := Lib.hid (z64_new w)
  have hbA : Below w.heap.size w (w.alloc (.cells #[.string ⟨#[]⟩, .float .f64 0, .string ⟨#[]⟩, .slice none 0 0, .slice none 0 0, .bool false, .string ⟨#[]⟩, .int .u8 0, .pointer none, .pointer none] 64)) := (by repeat (first | (with_reducible exact Below.refl _ _) | (with_reducible assumption) | ((with_reducible refine Below.alloc ?_ ?_ _); rotate_left; focus (first | exact Nat.le_refl _ | omega | (simp; done) | (simp; omega))) | ((with_reducible refine Below.setCell ?_ ?_ _); rotate_left; focus (first | exact Nat.le_refl _ | omega | (simp; done) | (simp; omega))) | (with_reducible refine Below.drew ?_) | (with_reducible refine below_drewN ?_ _) | ((with_reducible refine below_via (by assumption) ?_ ?_); focus (first | exact Nat.le_refl _ | omega | (simp; done) | (simp; omega)))))
  have H58 := Lib.hid (fun W (hW : DL W L [b1] [.iface 64 (fS s)]) => c58 p L b1 s W hW)
  generalize codeB s = x at H58 ⊢
  unfold fN at H58 ⊢
  go_enter Tryz.func36, Tryz.ntmps36
  go_wp2_with fail
  refine (H58.out _ (HD.out.below hbA)).mono ?_
  rintro e w2 ⟨rfl, hb2⟩
  obtain ⟨zs, z0, z1, z2, z3, z4, z5, z6, z7, z8, z9, zf⟩ := HZ.out.below hb2
  have hfin : Below w.heap.size w w2 := keepS' hbA (by simp) hb2
  clear HZ HD hb2 H58
  go_wp2_with fail
  (refine bodyPost_ret (v := .agg #[.string ⟨#[]⟩, .float .f64 x, .string ⟨#[]⟩, .slice none 0 0, .slice none 0 0, .bool false, .string ⟨#[]⟩, .int .u8 1, .pointer none, .pointer none]) ?_ rfl ?_; (focus (first | (simp [results, Tryz.results36, go_sem, hc1, hz1]; done) | (simp [results, Tryz.results36, go_sem]; done) | (simp [results, Tryz.results36, go_sem, *]; done))); exact ret_mk (by repeat (first | (with_reducible exact Below.refl _ _) | (with_reducible assumption) | ((with_reducible refine Below.alloc ?_ ?_ _); rotate_left; focus (first | exact Nat.le_refl _ | omega | (simp; done) | (simp; omega))) | ((with_reducible refine Below.setCell ?_ ?_ _); rotate_left; focus (first | exact Nat.le_refl _ | omega | (simp; done) | (simp; omega))) | (with_reducible refine Below.drew ?_) | (with_reducible refine below_drewN ?_ _) | ((with_reducible refine below_via (by assumption) ?_ ?_); focus (first | exact Nat.le_refl _ | omega | (simp; done) | (simp; omega))))))
set_option maxRecDepth 100000 in
set_option maxHeartbeats 2000000 in
theorem c25 (s : ByteArray) (A : Option Addr) (c : Nat) (w : World) (hx : IRow w A [⟨2, 0, s⟩]) :
    Calls Tryz.prog 25 #[.slice A 1 c] w (Ret w (.agg #[.int .i64 1, .float .f64 (codeB s), .string ⟨#[]⟩, .slice none 0 0])) := by
  have h35 : ∀ W, Below w.heap.size w W → Calls Tryz.prog 35 #[.slice A 1 c] W (fun e w' => ∃ L b1, e = .returned (.pointer (some ⟨L, 0, none⟩)) ∧ DL w' L [b1] [.iface 64 (fS s)] ∧ Below W.heap.size W w') := fun W hW => by
    refine (c35 (fun i => fS i.t) [⟨2, 0, s⟩] A c W (by simp) (by simp) (CRow.below hx hW) ?_).mono ?_
    · intro i hi w'
      simp only [List.mem_cons, List.not_mem_nil, or_false] at hi
      subst hi
      exact c57_2 0 s w'
    · rintro e w' ⟨L, bs, he, hl, hd, hb⟩
      match bs, hl, hd with
      | [b1], _, hd => exact ⟨L, b1, he, hd, hb⟩
  have H35 := Lib.hid h35
  have H36 := Lib.hid (fun (p : Option Addr) (L b1 : Nat) W (hW : DL W L [b1] [.iface 64 (fS s)]) => c36 p L b1 s W hW)
  clear h35 hx
  generalize codeB s = x at H36 ⊢
  have HZ := Lib.hid (zi_new w 50)
  have hbA : Below w.heap.size w (w.alloc (.cells #[.int .i64 0, .float .f64 0, .string ⟨#[]⟩, .slice none 0 0] 50)) := (by repeat (first | (with_reducible exact Below.refl _ _) | (with_reducible assumption) | ((with_reducible refine Below.alloc ?_ ?_ _); rotate_left; focus (first | exact Nat.le_refl _ | omega | (simp; done) | (simp; omega))) | ((with_reducible refine Below.setCell ?_ ?_ _); rotate_left; focus (first | exact Nat.le_refl _ | omega | (simp; done) | (simp; omega))) | (with_reducible refine Below.drew ?_) | (with_reducible refine below_drewN ?_ _) | ((with_reducible refine below_via (by assumption) ?_ ?_); focus (first | exact Nat.le_refl _ | omega | (simp; done) | (simp; omega)))))
  go_enter Tryz.func25, Tryz.ntmps25
  go_wp2_with fail
  refine (c33 _).mono ?_
  rintro e w1 ⟨_, rfl, ⟨p, rfl⟩, hb1⟩
  have hbw1 : Below w.heap.size w w1 := keepS' hbA (by simp) hb1
  go_wp2_with fail
  refine (H35.out w1 hbw1).mono ?_
  rintro e w2 ⟨L, b1, rfl, hd, hb2⟩
  have HD := Lib.hid hd
  clear hd
  go_wp2_with fail
  refine (H36.out p L b1 w2 HD.out).mono ?_
  rintro e w3 ⟨rfl, hb3⟩
  go_wp2_with fail
  refine (c32_N x w3).mono ?_
  rintro e w4 ⟨rfl, hb4⟩
  have hb14 := keepS hb4 (keepS hb3 (keepS hb2 hb1))
  obtain ⟨zs, z0, z1, z2, z3, zf⟩ := HZ.out.below hb14
  have hfin : Below w.heap.size w w4 := keepS' hbA (by simp) hb14
  clear hb1 hb2 hb3 hb4 hb14 HD H35 H36 hbw1 HZ
  go_wp2_with fail
  (refine bodyPost_ret (v := .agg #[.int .i64 1, .float .f64 x, .string ⟨#[]⟩, .slice none 0 0]) ?_ rfl ?_; (focus (first | (simp [results, Tryz.results25, go_sem, hc1, hz1]; done) | (simp [results, Tryz.results25, go_sem]; done) | (simp [results, Tryz.results25, go_sem, *]; done))); exact ret_mk (by repeat (first | (with_reducible exact Below.refl _ _) | (with_reducible assumption) | ((with_reducible refine Below.alloc ?_ ?_ _); rotate_left; focus (first | exact Nat.le_refl _ | omega | (simp; done) | (simp; omega))) | ((with_reducible refine Below.setCell ?_ ?_ _); rotate_left; focus (first | exact Nat.le_refl _ | omega | (simp; done) | (simp; omega))) | (with_reducible refine Below.drew ?_) | (with_reducible refine below_drewN ?_ _) | ((with_reducible refine below_via (by assumption) ?_ ?_); focus (first | exact Nat.le_refl _ | omega | (simp; done) | (simp; omega))))))
set_option maxRecDepth 100000 in
set_option maxHeartbeats 2000000 in
theorem c11 (s : ByteArray) (A : Option Addr) (c : Nat) (w : World) (hx : IRow w A [⟨2, 0, s⟩]) :
    Calls Tryz.prog 11 #[.slice A 1 c] w (Ret w (.agg #[.int .i64 1, .float .f64 (codeB s), .string ⟨#[]⟩, .slice none 0 0])) := by
  have HX := Lib.hid hx
  clear hx
  have H25 := Lib.hid (fun (A : Option Addr) (c : Nat) W (hW : IRow W A [⟨2, 0, s⟩]) => c25 s A c W hW)
  generalize codeB s = x at H25 ⊢
  have HZ := Lib.hid (zi_new w 44)
  have hbA : Below w.heap.size w (w.alloc (.cells #[.int .i64 0, .float .f64 0, .string ⟨#[]⟩, .slice none 0 0] 44)) := (by repeat (first | (with_reducible exact Below.refl _ _) | (with_reducible assumption) | ((with_reducible refine Below.alloc ?_ ?_ _); rotate_left; focus (first | exact Nat.le_refl _ | omega | (simp; done) | (simp; omega))) | ((with_reducible refine Below.setCell ?_ ?_ _); rotate_left; focus (first | exact Nat.le_refl _ | omega | (simp; done) | (simp; omega))) | (with_reducible refine Below.drew ?_) | (with_reducible refine below_drewN ?_ _) | ((with_reducible refine below_via (by assumption) ?_ ?_); focus (first | exact Nat.le_refl _ | omega | (simp; done) | (simp; omega)))))
  go_enter Tryz.func11, Tryz.ntmps11
  go_wp2_with fail
  refine (c24 [⟨2, 0, s⟩] A c _ (by simp) (by simp) (CRow.below HX.out hbA)).mono ?_
  rintro e w1 ⟨A1, c1, rfl, hx1, hb1⟩
  have HX1 := Lib.hid hx1
  clear hx1
  go_wp2_with fail
  refine (H25.out A1 c1 w1 HX1.out).mono ?_
  rintro e w2 ⟨rfl, hb2⟩
  go_wp2_with fail
  refine (c22 ⟨1, x, ⟨#[]⟩⟩ w2).mono ?_
  rintro e w4 ⟨rfl, hb4⟩
  have hb14 := keepS hb4 (keepS hb2 hb1)
  obtain ⟨zs, z0, z1, z2, z3, zf⟩ := HZ.out.below hb14
  have hfin : Below w.heap.size w w4 := keepS' hbA (by simp) hb14
  clear hb1 hb2 hb4 hb14 HX HX1 H25 HZ
  go_wp2_with fail
  (refine bodyPost_ret (v := .agg #[.int .i64 1, .float .f64 x, .string ⟨#[]⟩, .slice none 0 0]) ?_ rfl ?_; (focus (first | (simp [results, Tryz.results11, go_sem, hc1, hz1]; done) | (simp [results, Tryz.results11, go_sem]; done) | (simp [results, Tryz.results11, go_sem, *]; done))); exact ret_mk (by repeat (first | (with_reducible exact Below.refl _ _) | (with_reducible assumption) | ((with_reducible refine Below.alloc ?_ ?_ _); rotate_left; focus (first | exact Nat.le_refl _ | omega | (simp; done) | (simp; omega))) | ((with_reducible refine Below.setCell ?_ ?_ _); rotate_left; focus (first | exact Nat.le_refl _ | omega | (simp; done) | (simp; omega))) | (with_reducible refine Below.drew ?_) | (with_reducible refine below_drewN ?_ _) | ((with_reducible refine below_via (by assumption) ?_ ?_); focus (first | exact Nat.le_refl _ | omega | (simp; done) | (simp; omega))))))
end Go.Proofs.YtpahhejkpdkjmaaGreatDoor
