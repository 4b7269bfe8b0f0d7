/- EXACT of the implementation. -/
import Derived.Test.YtpahhejkpdkjmaaGreatDoorJ3
import Derived.Test.YtpahhejkpdkjmaaGreatDoorJ1
set_option linter.unusedSimpArgs false
set_option linter.unusedVariables false
namespace Go.Proofs.YtpahhejkpdkjmaaGreatDoor
open Go.RowKit
attribute [local go_sem] run_store_float
theorem as64 (v : Value) (w : World) : (Instr.typeAssert (.iface 64 v) 20 64 false).run Tryz.prog w = .ok v w := by kernel_rfl
attribute [local go_sem] as64
def bt (b : Bool) : Nat := if b then 4607182418800017408 else 0
theorem keepS' {B : Nat} {w w1 w2 : World} (h : Below B w w1) (hB : B ≤ w1.heap.size) (k : Below w1.heap.size w1 w2) : Below B w w2 := below_then h hB k
theorem c54u (b : Bool) (w : World) : Calls Tryz.prog 54 #[.bool b] w (Ret w (.agg #[.string ⟨#[]⟩, .float .f64 (bt b), .string ⟨#[]⟩, .slice none 0 0, .slice none 0 0, .bool true, .string ⟨#[]⟩, .int .u8 1, .pointer none, .pointer none])) := c54 b w
set_option maxRecDepth 100000 in
set_option maxHeartbeats 2000000 in
theorem c33 (w : World) : Calls Tryz.prog 33 #[] w (RetV w fun v => ∃ p, v = .pointer p) := by
  go_enter Tryz.func33, Tryz.ntmps33
  go_wp2_with fail
  go_ret
  exact retV_mk _ ⟨_, rfl⟩ (by repeat (first | (with_reducible exact Below.refl _ _) | (with_reducible assumption) | ((with_reducible refine Below.alloc ?_ ?_ _); rotate_left; focus (first | exact Nat.le_refl _ | omega | (simp; done) | (simp; omega))) | ((with_reducible refine Below.setCell ?_ ?_ _); rotate_left; focus (first | exact Nat.le_refl _ | omega | (simp; done) | (simp; omega))) | (with_reducible refine Below.drew ?_) | (with_reducible refine below_drewN ?_ _) | ((with_reducible refine below_via (by assumption) ?_ ?_); focus (first | exact Nat.le_refl _ | omega | (simp; done) | (simp; omega)))))
set_option maxRecDepth 100000 in
set_option maxHeartbeats 400000 in
theorem c34 (p : Option Addr) (L b1 b2 : Nat) (s t : ByteArray) (w : World) (h : DL w L [b1, b2] [.iface 64 (fS s), .iface 64 (fS t)]) :
    Calls Tryz.prog 34 #[.pointer p, .pointer (some ⟨L, 0, none⟩)] w (Ret w (fB (bt (s.toList == t.toList)))) := by
  obtain ⟨_, _, _, _, e3, _⟩ := h.el 0 b1 rfl
  obtain ⟨_, _, _, _, k3, _⟩ := h.el 1 b2 rfl
  have HD := Lib.hid h
  have l1 := (h.el 0 b1 rfl).1
  have l2 := (h.el 1 b2 rfl).1
  clear h
  have he3 : w.cell? ⟨b1, 3, none⟩ = some (.iface 64 (fS s)) := e3
  have hk3 : w.cell? ⟨b2, 3, none⟩ = some (.iface 64 (fS t)) := k3
  clear e3 k3
  have h53 : ∀ W, DL W L [b1, b2] [.iface 64 (fS s), .iface 64 (fS t)] → Calls Tryz.prog 53 #[.pointer (some ⟨L, 0, none⟩)] W (fun en w' => en = .returned (.pointer (some ⟨b2, 0, none⟩)) ∧ w' = W) := fun W h => c53 L [b1, b2] _ W h (Nat.succ_pos 1)
  have H53 := Lib.hid h53
  clear h53
  unfold fB
  go_enter Tryz.func34, Tryz.ntmps34
  go_wp2_with fail
  have HZ0 : Hid (DL (w.alloc (.cells #[.string ⟨#[]⟩, .float .f64 0, .string ⟨#[]⟩, .slice none 0 0, .slice none 0 0, .bool false, .string ⟨#[]⟩, .int .u8 0, .pointer none, .pointer none] 64)) L [b1, b2] [.iface 64 (fS s), .iface 64 (fS t)]) := Lib.hid (HD.out.below (by repeat (first | (with_reducible exact Below.refl _ _) | (with_reducible assumption) | ((with_reducible refine Below.alloc ?_ ?_ _); rotate_left; focus (first | exact Nat.le_refl _ | omega | (simp; done) | (simp; omega))) | ((with_reducible refine Below.setCell ?_ ?_ _); rotate_left; focus (first | exact Nat.le_refl _ | omega | (simp; done) | (simp; omega))) | (with_reducible refine Below.drew ?_) | (with_reducible refine below_drewN ?_ _) | ((with_reducible refine below_via (by assumption) ?_ ?_); focus (first | exact Nat.le_refl _ | omega | (simp; done) | (simp; omega))))))
  have lw1 : b1 < (w.alloc (.cells #[.string ⟨#[]⟩, .float .f64 0, .string ⟨#[]⟩, .slice none 0 0, .slice none 0 0, .bool false, .string ⟨#[]⟩, .int .u8 0, .pointer none, .pointer none] 64)).heap.size := by simp; omega
  go_wp2_with (first
    | (go_at_call 49; refine (c49 L [b1, b2] _ _ HZ0.out).mono ?_; rintro e w1 ⟨rfl, rfl⟩)
    | (go_at_call 51; refine (c51 L [b1, b2] _ _ HZ0.out (Nat.succ_pos 1)).mono ?_; rintro e w1 ⟨rfl, rfl⟩)
    | (go_at_call 52; refine (c52_S s _).mono ?_; rintro e w1 ⟨rfl, hb1⟩; have hk31 : w1.cell? ⟨b2, 3, none⟩ = some (.iface 64 (fS t)) := ((HZ0.out.below hb1).el 1 b2 rfl).2.2.2.2.1; obtain ⟨hc1, hf1, hz1⟩ := bcell hb1; have hs1 : w.heap.size < w1.heap.size := hz1 _ (by simp)))
  refine (H53.out w1 (HZ0.out.below hb1)).mono ?_
  rintro e w2 ⟨rfl, he2⟩
  subst he2
  go_wp2_with (go_at_call 52; refine (c52_S t _).mono ?_; rintro e w3 ⟨rfl, hb3⟩; obtain ⟨hc3, hf3, hz3⟩ := bcell hb3; have hs3 : w.heap.size < w3.heap.size := hz3 _ hs1)
  refine (c54u _ _).mono ?_
  rintro e w4 ⟨rfl, hb4⟩
  obtain ⟨hc4, hf4, hz4⟩ := bcell hb4
  have hs4 : w.heap.size < w4.heap.size := hz4 _ hs3
  have hbA : Below w.heap.size w (w.alloc (.cells #[.string ⟨#[]⟩, .float .f64 0, .string ⟨#[]⟩, .slice none 0 0, .slice none 0 0, .bool false, .string ⟨#[]⟩, .int .u8 0, .pointer none, .pointer none] 64)) := (by repeat (first | (with_reducible exact Below.refl _ _) | (with_reducible assumption) | ((with_reducible refine Below.alloc ?_ ?_ _); rotate_left; focus (first | exact Nat.le_refl _ | omega | (simp; done) | (simp; omega))) | ((with_reducible refine Below.setCell ?_ ?_ _); rotate_left; focus (first | exact Nat.le_refl _ | omega | (simp; done) | (simp; omega))) | (with_reducible refine Below.drew ?_) | (with_reducible refine below_drewN ?_ _) | ((with_reducible refine below_via (by assumption) ?_ ?_); focus (first | exact Nat.le_refl _ | omega | (simp; done) | (simp; omega)))))
  have hb14 : Below (w.alloc (.cells #[.string ⟨#[]⟩, .float .f64 0, .string ⟨#[]⟩, .slice none 0 0, .slice none 0 0, .bool false, .string ⟨#[]⟩, .int .u8 0, .pointer none, .pointer none] 64)).heap.size (w.alloc (.cells #[.string ⟨#[]⟩, .float .f64 0, .string ⟨#[]⟩, .slice none 0 0, .slice none 0 0, .bool false, .string ⟨#[]⟩, .int .u8 0, .pointer none, .pointer none] 64)) w4 := keepS hb4 (keepS hb3 hb1)
  have hq : ∀ o, o < 10 → w4.cell? ⟨w.heap.size, o, none⟩ = (#[.string ⟨#[]⟩, .float .f64 0, .string ⟨#[]⟩, .slice none 0 0, .slice none 0 0, .bool false, .string ⟨#[]⟩, .int .u8 0, .pointer none, .pointer none] : Array Value)[o]? := fun o ho => (hb14.cell (p := ⟨w.heap.size, o, none⟩) (by simp)).trans (World.cell?_alloc_new ..)
  have hfr : ∀ o, w4.frozen? ⟨w.heap.size, o, none⟩ = false := fun o => (hb14.frozen (p := ⟨w.heap.size, o, none⟩) (by simp)).trans (frozen_alloc _ _ _ _)
  have q0 := hq 0 (by decide)
  have q1 := hq 1 (by decide)
  have q2 := hq 2 (by decide)
  have q3 := hq 3 (by decide)
  have q4 := hq 4 (by decide)
  have q5 := hq 5 (by decide)
  have q6 := hq 6 (by decide)
  have q7 := hq 7 (by decide)
  have q8 := hq 8 (by decide)
  have q9 := hq 9 (by decide)
  have hfin : Below w.heap.size w w4 := keepS' hbA (by simp) hb14
  clear hq hc1 hf1 hz1 hc3 hf3 hz3 hc4 hf4 hz4 hb1 hb3 hb4 hb14 hk31 he3 hk3 HD HZ0 H53
  simp at q0 q1 q2 q3 q4 q5 q6 q7 q8 q9
  go_wp2_with fail
  generalize bt (s.toList == t.toList) = x
  (refine bodyPost_ret (v := .agg #[.string ⟨#[]⟩, .float .f64 x, .string ⟨#[]⟩, .slice none 0 0, .slice none 0 0, .bool true, .string ⟨#[]⟩, .int .u8 1, .pointer none, .pointer none]) ?_ rfl ?_; (focus (first | (simp [results, Tryz.results34, go_sem, hc1, hz1]; done) | (simp [results, Tryz.results34, go_sem]; done) | (simp [results, Tryz.results34, go_sem, *]; done))); exact ret_mk (by repeat (first | (with_reducible exact Below.refl _ _) | (with_reducible assumption) | ((with_reducible refine Below.alloc ?_ ?_ _); rotate_left; focus (first | exact Nat.le_refl _ | omega | (simp; done) | (simp; omega))) | ((with_reducible refine Below.setCell ?_ ?_ _); rotate_left; focus (first | exact Nat.le_refl _ | omega | (simp; done) | (simp; omega))) | (with_reducible refine Below.drew ?_) | (with_reducible refine below_drewN ?_ _) | ((with_reducible refine below_via (by assumption) ?_ ?_); focus (first | exact Nat.le_refl _ | omega | (simp; done) | (simp; omega))))))
set_option maxRecDepth 100000 in
set_option maxHeartbeats 2000000 in
theorem c23 (s t : ByteArray) (A : Option Addr) (c : Nat) (w : World) (hx : IRow w A [⟨2, 0, s⟩, ⟨2, 0, t⟩]) :
    Calls Tryz.prog 23 #[.slice A 2 c] w (Ret w (.agg #[.int .i64 3, .float .f64 (bt (s.toList == t.toList)), .string ⟨#[]⟩, .slice none 0 0])) := by
  have h35 : ∀ W, Below w.heap.size w W → Calls Tryz.prog 35 #[.slice A 2 c] W (fun e w' => ∃ L b1 b2, e = .returned (.pointer (some ⟨L, 0, none⟩)) ∧ DL w' L [b1, b2] [.iface 64 (fS s), .iface 64 (fS t)] ∧ Below W.heap.size W w') := fun W hW => by
    refine (c35 (fun i => fS i.t) [⟨2, 0, s⟩, ⟨2, 0, t⟩] A c W (by simp) (by simp) (CRow.below hx hW) ?_).mono ?_
    · intro i hi w'
      simp only [List.mem_cons, List.not_mem_nil, or_false] at hi
      rcases hi with rfl | rfl
      · exact c57_2 0 s w'
      · exact c57_2 0 t w'
    · rintro e w' ⟨L, bs, he, hl, hd, hb⟩
      match bs, hl, hd with
      | [b1, b2], _, hd => exact ⟨L, b1, b2, he, hd, hb⟩
  have H35 := Lib.hid h35
  clear h35 hx
  go_enter Tryz.func23, Tryz.ntmps23
  go_wp2_with fail
  have hbA : Below w.heap.size w (w.alloc (.cells #[.int .i64 0, .float .f64 0, .string ⟨#[]⟩, .slice none 0 0] 50)) := (by repeat (first | (with_reducible exact Below.refl _ _) | (with_reducible assumption) | ((with_reducible refine Below.alloc ?_ ?_ _); rotate_left; focus (first | exact Nat.le_refl _ | omega | (simp; done) | (simp; omega))) | ((with_reducible refine Below.setCell ?_ ?_ _); rotate_left; focus (first | exact Nat.le_refl _ | omega | (simp; done) | (simp; omega))) | (with_reducible refine Below.drew ?_) | (with_reducible refine below_drewN ?_ _) | ((with_reducible refine below_via (by assumption) ?_ ?_); focus (first | exact Nat.le_refl _ | omega | (simp; done) | (simp; omega)))))
  refine (c33 _).mono ?_
  rintro e w1 ⟨_, rfl, ⟨p, rfl⟩, hb1⟩
  have hbw1 : Below w.heap.size w w1 := keepS' hbA (by simp) hb1
  go_wp2_with fail
  refine (H35.out w1 hbw1).mono ?_
  rintro e w2 ⟨L, b1, b2, rfl, hd, hb2⟩
  have HD := Lib.hid hd
  clear hd
  go_wp2_with fail
  refine (c34 p L b1 b2 s t w2 HD.out).mono ?_
  rintro e w3 ⟨rfl, hb3⟩
  go_wp2_with fail
  refine (c32_B _ w3).mono ?_
  rintro e w4 ⟨rfl, hb4⟩
  have hb14 := keepS hb4 (keepS hb3 (keepS hb2 hb1))
  have hs4 : w.heap.size < w4.heap.size := Nat.lt_of_lt_of_le (by simp) hb14.size
  have hfr : ∀ o, w4.frozen? ⟨w.heap.size, o, none⟩ = false := fun o => (hb14.frozen (p := ⟨w.heap.size, o, none⟩) (by simp)).trans (frozen_alloc _ _ _ _)
  have hq : ∀ o, o < 4 → w4.cell? ⟨w.heap.size, o, none⟩ = (#[.int .i64 0, .float .f64 0, .string ⟨#[]⟩, .slice none 0 0] : Array Value)[o]? := fun o ho => (hb14.cell (p := ⟨w.heap.size, o, none⟩) (by simp)).trans (World.cell?_alloc_new ..)
  have q0 := hq 0 (by decide)
  have q1 := hq 1 (by decide)
  have q2 := hq 2 (by decide)
  have q3 := hq 3 (by decide)
  have hfin : Below w.heap.size w w4 := keepS' hbA (by simp) hb14
  clear hq hb1 hb2 hb3 hb4 hb14 HD H35 hbw1
  simp at q0 q1 q2 q3
  go_wp2_with fail
  generalize bt (s.toList == t.toList) = x
  (refine bodyPost_ret (v := .agg #[.int .i64 3, .float .f64 x, .string ⟨#[]⟩, .slice none 0 0]) ?_ rfl ?_; (focus (first | (simp [results, Tryz.results23, go_sem, hc1, hz1]; done) | (simp [results, Tryz.results23, go_sem]; done) | (simp [results, Tryz.results23, go_sem, *]; done))); exact ret_mk (by repeat (first | (with_reducible exact Below.refl _ _) | (with_reducible assumption) | ((with_reducible refine Below.alloc ?_ ?_ _); rotate_left; focus (first | exact Nat.le_refl _ | omega | (simp; done) | (simp; omega))) | ((with_reducible refine Below.setCell ?_ ?_ _); rotate_left; focus (first | exact Nat.le_refl _ | omega | (simp; done) | (simp; omega))) | (with_reducible refine Below.drew ?_) | (with_reducible refine below_drewN ?_ _) | ((with_reducible refine below_via (by assumption) ?_ ?_); focus (first | exact Nat.le_refl _ | omega | (simp; done) | (simp; omega))))))
set_option maxRecDepth 100000 in
set_option maxHeartbeats 2000000 in
theorem c9 (s t : ByteArray) (A : Option Addr) (c : Nat) (w : World) (hx : IRow w A [⟨2, 0, s⟩, ⟨2, 0, t⟩]) :
    Calls Tryz.prog 9 #[.slice A 2 c] w (Ret w (.agg #[.int .i64 3, .float .f64 (bt (s.toList == t.toList)), .string ⟨#[]⟩, .slice none 0 0])) := by
  have HX := Lib.hid hx
  clear hx
  go_enter Tryz.func9, Tryz.ntmps9
  go_wp2_with fail
  have hbA : Below w.heap.size w (w.alloc (.cells #[.int .i64 0, .float .f64 0, .string ⟨#[]⟩, .slice none 0 0] 44)) := (by repeat (first | (with_reducible exact Below.refl _ _) | (with_reducible assumption) | ((with_reducible refine Below.alloc ?_ ?_ _); rotate_left; focus (first | exact Nat.le_refl _ | omega | (simp; done) | (simp; omega))) | ((with_reducible refine Below.setCell ?_ ?_ _); rotate_left; focus (first | exact Nat.le_refl _ | omega | (simp; done) | (simp; omega))) | (with_reducible refine Below.drew ?_) | (with_reducible refine below_drewN ?_ _) | ((with_reducible refine below_via (by assumption) ?_ ?_); focus (first | exact Nat.le_refl _ | omega | (simp; done) | (simp; omega)))))
  refine (c24 [⟨2, 0, s⟩, ⟨2, 0, t⟩] A c _ (by simp) (by simp) (CRow.below HX.out hbA)).mono ?_
  rintro e w1 ⟨A1, c1, rfl, hx1, hb1⟩
  have HX1 := Lib.hid hx1
  clear hx1
  go_wp2_with fail
  refine (c23 s t A1 c1 w1 HX1.out).mono ?_
  rintro e w2 ⟨rfl, hb2⟩
  go_wp2_with fail
  refine (c22 ⟨3, bt (s.toList == t.toList), ⟨#[]⟩⟩ w2).mono ?_
  rintro e w4 ⟨rfl, hb4⟩
  have hb14 := keepS hb4 (keepS hb2 hb1)
  have hs4 : w.heap.size < w4.heap.size := Nat.lt_of_lt_of_le (by simp) hb14.size
  have hfr : ∀ o, w4.frozen? ⟨w.heap.size, o, none⟩ = false := fun o => (hb14.frozen (p := ⟨w.heap.size, o, none⟩) (by simp)).trans (frozen_alloc _ _ _ _)
  have hq : ∀ o, o < 4 → w4.cell? ⟨w.heap.size, o, none⟩ = (#[.int .i64 0, .float .f64 0, .string ⟨#[]⟩, .slice none 0 0] : Array Value)[o]? := fun o ho => (hb14.cell (p := ⟨w.heap.size, o, none⟩) (by simp)).trans (World.cell?_alloc_new ..)
  have q0 := hq 0 (by decide)
  have q1 := hq 1 (by decide)
  have q2 := hq 2 (by decide)
  have q3 := hq 3 (by decide)
  have hfin : Below w.heap.size w w4 := keepS' hbA (by simp) hb14
  clear hq hb1 hb2 hb4 hb14 HX HX1
  simp at q0 q1 q2 q3
  go_wp2_with fail
  generalize bt (s.toList == t.toList) = x
  (refine bodyPost_ret (v := .agg #[.int .i64 3, .float .f64 x, .string ⟨#[]⟩, .slice none 0 0]) ?_ rfl ?_; (focus (first | (simp [results, Tryz.results9, go_sem, hc1, hz1]; done) | (simp [results, Tryz.results9, go_sem]; done) | (simp [results, Tryz.results9, go_sem, *]; done))); exact ret_mk (by repeat (first | (with_reducible exact Below.refl _ _) | (with_reducible assumption) | ((with_reducible refine Below.alloc ?_ ?_ _); rotate_left; focus (first | exact Nat.le_refl _ | omega | (simp; done) | (simp; omega))) | ((with_reducible refine Below.setCell ?_ ?_ _); rotate_left; focus (first | exact Nat.le_refl _ | omega | (simp; done) | (simp; omega))) | (with_reducible refine Below.drew ?_) | (with_reducible refine below_drewN ?_ _) | ((with_reducible refine below_via (by assumption) ?_ ?_); focus (first | exact Nat.le_refl _ | omega | (simp; done) | (simp; omega))))))
end Go.Proofs.YtpahhejkpdkjmaaGreatDoor
