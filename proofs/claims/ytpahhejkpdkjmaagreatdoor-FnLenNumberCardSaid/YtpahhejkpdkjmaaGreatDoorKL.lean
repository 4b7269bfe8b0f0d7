/- LEN of the implementation. -/
import Derived.Test.YtpahhejkpdkjmaaGreatDoorJL
import Derived.Test.YtpahhejkpdkjmaaGreatDoorJC
import Derived.Lib.OthersKept
import Derived.Lib.BufferKept
set_option linter.unusedSimpArgs false
set_option linter.unusedVariables false
namespace Go.Proofs.YtpahhejkpdkjmaaGreatDoor
open Go.RowKit
attribute [local go_sem] run_store_float as64
theorem lenN_le (k : Int) (hk : k.natAbs < 1000000) : lenN k ≤ 7 := by
  unfold lenN
  have := nDigits_le6 k.natAbs hk
  split <;> omega
def lenB (k : Int) : Nat := floatOfInt FloatKind.f64 ((lenN k : Nat) : Int)
theorem lenB_ok (k : Int) (hk : k.natAbs < 1000000) : FOK (lenB k) := foi_ok _ (by have := lenN_le k hk; omega)
set_option maxRecDepth 100000 in
set_option maxHeartbeats 1000000 in
theorem c37 (p : Option Addr) (L b1 : Nat) (k : Int) (w : World) (hk : k.natAbs < 1000000) (hT : Tabs w) (h : DL w L [b1] [.iface 64 (fN (floatOfInt FloatKind.f64 k))]) :
    Calls Tryz.prog 37 #[.pointer p, .pointer (some ⟨L, 0, none⟩)] w (Ret w (fN (lenB k))) := by
  obtain ⟨_, _, _, _, e3, _⟩ := h.el 0 b1 rfl
  have HD := Lib.hid h
  have l1 := (h.el 0 b1 rfl).1
  clear h
  have H52 := Lib.hid (fun W (hW : Below w.heap.size w W) => c52_N k W hk (hT.below hW hT.pow.1))
  have HK := Lib.hid (lenB_ok k hk)
  have hn7 := lenN_le k hk
  have HB := Lib.hid (show floatOfInt FloatKind.f64 ((lenN k : Nat) : Int) = lenB k from rfl)
  clear hT
  have he3 : w.cell? ⟨b1, 3, none⟩ = some (.iface 64 (fN (floatOfInt FloatKind.f64 k))) := e3
  clear e3
  generalize lenB k = x at HK HB ⊢
  generalize fN (floatOfInt FloatKind.f64 k) = fa at H52 he3 HD
  generalize lenN k = n at H52 hn7 HB
  unfold fN
  go_enter Tryz.func37, Tryz.ntmps37
  go_wp2_with fail
  have HZ0 : Hid (DL (w.alloc (.cells #[.string ⟨#[]⟩, .float .f64 0, .string ⟨#[]⟩, .slice none 0 0, .slice none 0 0, .bool false, .string ⟨#[]⟩, .int .u8 0, .pointer none, .pointer none] 64)) L [b1] [.iface 64 fa]) := Lib.hid (HD.out.below (by repeat (first | (with_reducible exact Below.refl _ _) | (with_reducible assumption) | ((with_reducible refine Below.alloc ?_ ?_ _); rotate_left; focus (first | exact Nat.le_refl _ | omega | (simp; done) | (simp; omega))) | ((with_reducible refine Below.setCell ?_ ?_ _); rotate_left; focus (first | exact Nat.le_refl _ | omega | (simp; done) | (simp; omega))) | (with_reducible refine Below.drew ?_) | (with_reducible refine below_drewN ?_ _) | ((with_reducible refine below_via (by assumption) ?_ ?_); focus (first | exact Nat.le_refl _ | omega | (simp; done) | (simp; omega))))))
  have lw1 : b1 < (w.alloc (.cells #[.string ⟨#[]⟩, .float .f64 0, .string ⟨#[]⟩, .slice none 0 0, .slice none 0 0, .bool false, .string ⟨#[]⟩, .int .u8 0, .pointer none, .pointer none] 64)).heap.size := by simp; omega
  have HZ := Lib.hid (z64_new w)
  have hbA : Below w.heap.size w (w.alloc (.cells #[.string ⟨#[]⟩, .float .f64 0, .string ⟨#[]⟩, .slice none 0 0, .slice none 0 0, .bool false, .string ⟨#[]⟩, .int .u8 0, .pointer none, .pointer none] 64)) := (by repeat (first | (with_reducible exact Below.refl _ _) | (with_reducible assumption) | ((with_reducible refine Below.alloc ?_ ?_ _); rotate_left; focus (first | exact Nat.le_refl _ | omega | (simp; done) | (simp; omega))) | ((with_reducible refine Below.setCell ?_ ?_ _); rotate_left; focus (first | exact Nat.le_refl _ | omega | (simp; done) | (simp; omega))) | (with_reducible refine Below.drew ?_) | (with_reducible refine below_drewN ?_ _) | ((with_reducible refine below_via (by assumption) ?_ ?_); focus (first | exact Nat.le_refl _ | omega | (simp; done) | (simp; omega)))))
  go_wp2_with (first
    | (go_at_call 49; refine (c49 L [b1] _ _ HZ0.out).mono ?_; rintro e w1 ⟨rfl, rfl⟩)
    | (go_at_call 51; refine (c51 L [b1] _ _ HZ0.out (Nat.succ_pos 0)).mono ?_; rintro e w1 ⟨rfl, rfl⟩))
  refine (H52.out _ hbA).mono ?_
  rintro e w1 ⟨s, rfl, hl, hs, hb1⟩
  have HZ1 := Lib.hid (HZ.out.below hb1)
  have HL := Lib.hid hl
  have hsz : s.size ≤ 1000000 := by omega
  have H60 := Lib.hid (c60 s w1 hsz hs)
  clear hl hs hsz
  go_wp2_with fail
  refine H60.out.mono ?_
  rintro e w2 ⟨rfl, hb2⟩
  go_wp2_with fail
  rw [HL.out, HB.out]
  refine (c59' x _ HK.out).mono ?_
  rintro e w3 ⟨rfl, hb3⟩
  obtain ⟨zs, z0, z1, z2, z3, z4, z5, z6, z7, z8, z9, zf⟩ := HZ1.out.below (keepS hb3 hb2)
  have hfin : Below w.heap.size w w3 := keepS' hbA (by simp) (keepS hb3 (keepS hb2 hb1))
  clear HZ HZ0 HZ1 HD hb1 hb2 hb3 he3 lw1 l1 H60
  go_wp2_with fail
  (refine bodyPost_ret (v := .agg #[.string ⟨#[]⟩, .float .f64 x, .string ⟨#[]⟩, .slice none 0 0, .slice none 0 0, .bool false, .string ⟨#[]⟩, .int .u8 1, .pointer none, .pointer none]) ?_ rfl ?_; (focus (first | (simp [results, Tryz.results37, go_sem, hc1, hz1]; done) | (simp [results, Tryz.results37, go_sem]; done) | (simp [results, Tryz.results37, go_sem, *]; done))); exact ret_mk (by repeat (first | (with_reducible exact Below.refl _ _) | (with_reducible assumption) | ((with_reducible refine Below.alloc ?_ ?_ _); rotate_left; focus (first | exact Nat.le_refl _ | omega | (simp; done) | (simp; omega))) | ((with_reducible refine Below.setCell ?_ ?_ _); rotate_left; focus (first | exact Nat.le_refl _ | omega | (simp; done) | (simp; omega))) | (with_reducible refine Below.drew ?_) | (with_reducible refine below_drewN ?_ _) | ((with_reducible refine below_via (by assumption) ?_ ?_); focus (first | exact Nat.le_refl _ | omega | (simp; done) | (simp; omega))))))
set_option maxRecDepth 100000 in
set_option maxHeartbeats 2000000 in
theorem c26 (k : Int) (A : Option Addr) (c : Nat) (w : World) (hk : k.natAbs < 1000000) (hT : Tabs w) (hx : IRow w A [⟨1, floatOfInt FloatKind.f64 k, ⟨#[]⟩⟩]) :
    Calls Tryz.prog 26 #[.slice A 1 c] w (Ret w (.agg #[.int .i64 1, .float .f64 (lenB k), .string ⟨#[]⟩, .slice none 0 0])) := by
  have h35 : ∀ W, Below w.heap.size w W → Calls Tryz.prog 35 #[.slice A 1 c] W (fun e w' => ∃ L b1, e = .returned (.pointer (some ⟨L, 0, none⟩)) ∧ DL w' L [b1] [.iface 64 (fN (floatOfInt FloatKind.f64 k))] ∧ Below W.heap.size W w') := fun W hW => by
    refine (c35 (fun i => fN i.b) [⟨1, floatOfInt FloatKind.f64 k, ⟨#[]⟩⟩] A c W (by simp) (by simp) (CRow.below hx hW) ?_).mono ?_
    · intro i hi w'
      simp only [List.mem_cons, List.not_mem_nil, or_false] at hi
      subst hi
      exact c57_1 _ _ w' (foi_ok k (by omega))
    · rintro e w' ⟨L, bs, he, hl, hd, hb⟩
      match bs, hl, hd with
      | [b1], _, hd => exact ⟨L, b1, he, hd, hb⟩
  have H35 := Lib.hid h35
  have H37 := Lib.hid (fun (p : Option Addr) (L b1 : Nat) W (hW : Below w.heap.size w W) (hd : DL W L [b1] [.iface 64 (fN (floatOfInt FloatKind.f64 k))]) => c37 p L b1 k W hk (hT.below hW hT.pow.1) hd)
  clear h35 hx hT
  generalize lenB k = x at H37 ⊢
  generalize fN (floatOfInt FloatKind.f64 k) = fa at H35 H37
  have HZ := Lib.hid (zi_new w 50)
  have hbA : Below w.heap.size w (w.alloc (.cells #[.int .i64 0, .float .f64 0, .string ⟨#[]⟩, .slice none 0 0] 50)) := (by repeat (first | (with_reducible exact Below.refl _ _) | (with_reducible assumption) | ((with_reducible refine Below.alloc ?_ ?_ _); rotate_left; focus (first | exact Nat.le_refl _ | omega | (simp; done) | (simp; omega))) | ((with_reducible refine Below.setCell ?_ ?_ _); rotate_left; focus (first | exact Nat.le_refl _ | omega | (simp; done) | (simp; omega))) | (with_reducible refine Below.drew ?_) | (with_reducible refine below_drewN ?_ _) | ((with_reducible refine below_via (by assumption) ?_ ?_); focus (first | exact Nat.le_refl _ | omega | (simp; done) | (simp; omega)))))
  go_enter Tryz.func26, Tryz.ntmps26
  go_wp2_with fail
  refine (c33 _).mono ?_
  rintro e w1 ⟨_, rfl, ⟨p, rfl⟩, hb1⟩
  have hbw1 : Below w.heap.size w w1 := keepS' hbA (by simp) hb1
  go_wp2_with fail
  refine (H35.out w1 hbw1).mono ?_
  rintro e w2 ⟨L, b1, rfl, hd, hb2⟩
  have HD := Lib.hid hd
  clear hd
  go_wp2_with fail
  refine (H37.out p L b1 w2 (keepS hb2 hbw1) HD.out).mono ?_
  rintro e w3 ⟨rfl, hb3⟩
  go_wp2_with fail
  refine (c32_N x w3).mono ?_
  rintro e w4 ⟨rfl, hb4⟩
  have hb14 := keepS hb4 (keepS hb3 (keepS hb2 hb1))
  obtain ⟨zs, z0, z1, z2, z3, zf⟩ := HZ.out.below hb14
  have hfin : Below w.heap.size w w4 := keepS' hbA (by simp) hb14
  clear hb1 hb2 hb3 hb4 hb14 HD H35 H37 hbw1 HZ
  go_wp2_with fail
  (refine bodyPost_ret (v := .agg #[.int .i64 1, .float .f64 x, .string ⟨#[]⟩, .slice none 0 0]) ?_ rfl ?_; (focus (first | (simp [results, Tryz.results26, go_sem, hc1, hz1]; done) | (simp [results, Tryz.results26, go_sem]; done) | (simp [results, Tryz.results26, go_sem, *]; done))); exact ret_mk (by repeat (first | (with_reducible exact Below.refl _ _) | (with_reducible assumption) | ((with_reducible refine Below.alloc ?_ ?_ _); rotate_left; focus (first | exact Nat.le_refl _ | omega | (simp; done) | (simp; omega))) | ((with_reducible refine Below.setCell ?_ ?_ _); rotate_left; focus (first | exact Nat.le_refl _ | omega | (simp; done) | (simp; omega))) | (with_reducible refine Below.drew ?_) | (with_reducible refine below_drewN ?_ _) | ((with_reducible refine below_via (by assumption) ?_ ?_); focus (first | exact Nat.le_refl _ | omega | (simp; done) | (simp; omega))))))
set_option maxRecDepth 100000 in
set_option maxHeartbeats 2000000 in
theorem c12 (k : Int) (A : Option Addr) (c : Nat) (w : World) (hk : k.natAbs < 1000000) (hT : Tabs w) (hx : IRow w A [⟨1, floatOfInt FloatKind.f64 k, ⟨#[]⟩⟩]) :
    Calls Tryz.prog 12 #[.slice A 1 c] w (Ret w (.agg #[.int .i64 1, .float .f64 (lenB k), .string ⟨#[]⟩, .slice none 0 0])) := by
  have HX := Lib.hid (fun W (hW : Below w.heap.size w W) => c24 [⟨1, floatOfInt FloatKind.f64 k, ⟨#[]⟩⟩] A c W (by simp) (by simp) (CRow.below hx hW))
  clear hx
  have H26 := Lib.hid (fun (A : Option Addr) (c : Nat) W (hW : Below w.heap.size w W) (hi : IRow W A [⟨1, floatOfInt FloatKind.f64 k, ⟨#[]⟩⟩]) => c26 k A c W hk (hT.below hW hT.pow.1) hi)
  clear hT
  generalize lenB k = x at H26 ⊢
  have HZ := Lib.hid (zi_new w 44)
  have hbA : Below w.heap.size w (w.alloc (.cells #[.int .i64 0, .float .f64 0, .string ⟨#[]⟩, .slice none 0 0] 44)) := (by repeat (first | (with_reducible exact Below.refl _ _) | (with_reducible assumption) | ((with_reducible refine Below.alloc ?_ ?_ _); rotate_left; focus (first | exact Nat.le_refl _ | omega | (simp; done) | (simp; omega))) | ((with_reducible refine Below.setCell ?_ ?_ _); rotate_left; focus (first | exact Nat.le_refl _ | omega | (simp; done) | (simp; omega))) | (with_reducible refine Below.drew ?_) | (with_reducible refine below_drewN ?_ _) | ((with_reducible refine below_via (by assumption) ?_ ?_); focus (first | exact Nat.le_refl _ | omega | (simp; done) | (simp; omega)))))
  go_enter Tryz.func12, Tryz.ntmps12
  go_wp2_with fail
  refine (HX.out _ hbA).mono ?_
  rintro e w1 ⟨A1, c1, rfl, hx1, hb1⟩
  have HX1 := Lib.hid hx1
  clear hx1
  have hbw1 : Below w.heap.size w w1 := keepS' hbA (by simp) hb1
  go_wp2_with fail
  refine (H26.out A1 c1 w1 hbw1 HX1.out).mono ?_
  rintro e w2 ⟨rfl, hb2⟩
  go_wp2_with fail
  refine (c22 ⟨1, x, ⟨#[]⟩⟩ w2).mono ?_
  rintro e w4 ⟨rfl, hb4⟩
  have hb14 := keepS hb4 (keepS hb2 hb1)
  obtain ⟨zs, z0, z1, z2, z3, zf⟩ := HZ.out.below hb14
  have hfin : Below w.heap.size w w4 := keepS' hbA (by simp) hb14
  clear hb1 hb2 hb4 hb14 HX HX1 H26 HZ hbw1
  go_wp2_with fail
  (refine bodyPost_ret (v := .agg #[.int .i64 1, .float .f64 x, .string ⟨#[]⟩, .slice none 0 0]) ?_ rfl ?_; (focus (first | (simp [results, Tryz.results12, go_sem, hc1, hz1]; done) | (simp [results, Tryz.results12, go_sem]; done) | (simp [results, Tryz.results12, go_sem, *]; done))); exact ret_mk (by repeat (first | (with_reducible exact Below.refl _ _) | (with_reducible assumption) | ((with_reducible refine Below.alloc ?_ ?_ _); rotate_left; focus (first | exact Nat.le_refl _ | omega | (simp; done) | (simp; omega))) | ((with_reducible refine Below.setCell ?_ ?_ _); rotate_left; focus (first | exact Nat.le_refl _ | omega | (simp; done) | (simp; omega))) | (with_reducible refine Below.drew ?_) | (with_reducible refine below_drewN ?_ _) | ((with_reducible refine below_via (by assumption) ?_ ?_); focus (first | exact Nat.le_refl _ | omega | (simp; done) | (simp; omega))))))
end Go.Proofs.YtpahhejkpdkjmaaGreatDoor
