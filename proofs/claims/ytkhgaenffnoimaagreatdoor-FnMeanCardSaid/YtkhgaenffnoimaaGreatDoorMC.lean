/- The doors of AVERAGE, COUNT, SUM, of one matrix. -/
import Derived.Test.YtkhgaenffnoimaaGreatDoorMB
set_option linter.unusedSimpArgs false
set_option linter.unusedVariables false
namespace Go.Proofs.YtkhgaenffnoimaaGreatDoor
open Go.RowKit FL
attribute [local go_sem] run_store_float as64
set_option maxRecDepth 100000 in
set_option maxHeartbeats 1000000 in
theorem c28M (b : Nat) (ks : List Int) (A : Option Addr) (n c g c0 : Nat) (w : World) (hl : n ≤ 120) (h0 : 0 < n) (hlen : n = ks.length) (hkk : ∀ k, k ∈ ks → -9999 ≤ k ∧ k ≤ 9999) (hx : MRow w g A n c (ks.map fun k => (iN k).cells))
    (hX : ∀ (A : Option Addr) (c L1 L2 B L e : Nat) (p : Option Addr) (W : World), FM W B ks A L1 L2 → DL W L [e] [.iface 68 (fM A n c L1 L2)] → Calls Tryz.prog 47 #[.pointer p, .pointer (some ⟨L, 0, none⟩)] W (Ret W (fN b))) :
    Calls Tryz.prog 28 #[.slice (some ⟨g, 0, none⟩) 1 c0] w (Ret w (.agg #[.int .i64 1, .float .f64 b, .string ⟨#[]⟩, .slice none 0 0])) := by
  have H48 : Hid (∀ W, Below w.heap.size w W → Calls Tryz.prog 48 #[.slice (some ⟨g, 0, none⟩) 1 c0] W (fun e w' => ∃ (L b : Nat) (A' : Option Addr) (c' L1 L2 B : Nat), e = .returned (.pointer (some ⟨L, 0, none⟩)) ∧ DL w' L [b] [.iface 68 (fM A' n c' L1 L2)] ∧ FM w' B ks A' L1 L2 ∧ Below W.heap.size W w')) :=
    Lib.hid fun W hb => c48M ks A n c g c0 W hl h0 hlen hkk (hx.below hb)
  have HX := Lib.hid hX
  clear hx hX hlen hkk
  go_enter Tryz.func28, Tryz.ntmps28
  go_wp2_with fail
  have hbA : Below w.heap.size w (w.alloc (.cells #[.int .i64 0, .float .f64 0, .string ⟨#[]⟩, .slice none 0 0] 52)) := (by repeat (first | (with_reducible exact Below.refl _ _) | (with_reducible assumption) | ((with_reducible refine Below.alloc ?_ ?_ _); rotate_left; focus (first | exact Nat.le_refl _ | omega | (simp; done) | (simp; omega))) | ((with_reducible refine Below.setCell ?_ ?_ _); rotate_left; focus (first | exact Nat.le_refl _ | omega | (simp; done) | (simp; omega))) | (with_reducible refine Below.drew ?_) | (with_reducible refine below_drewN ?_ _) | ((with_reducible refine below_via (by assumption) ?_ ?_); focus (first | exact Nat.le_refl _ | omega | (simp; done) | (simp; omega)))))
  have HZ := Lib.hid (zi_new w 52)
  generalize (w.alloc (.cells #[.int .i64 0, .float .f64 0, .string ⟨#[]⟩, .slice none 0 0] 52)) = W1 at hbA HZ ⊢
  refine (c46 W1).mono ?_
  rintro e w1 ⟨v, rfl, ⟨p, rfl⟩, hb1⟩
  have hb1w : Below w.heap.size w w1 := keepS hb1 hbA
  have HZ1 := Lib.hid (HZ.out.below hb1)
  go_wp2_with fail
  refine (H48.out w1 hb1w).mono ?_
  rintro e w2 ⟨L, b2, A', c', L1, L2, B, rfl, hd, hf, hb2⟩
  have hb2w : Below w.heap.size w w2 := keepS hb2 hb1w
  have HZ2 := Lib.hid (HZ1.out.below hb2)
  have HD := Lib.hid hd
  have HF := Lib.hid hf
  clear hd hf
  go_wp2_with fail
  refine (HX.out A' c' L1 L2 B L b2 p w2 HF.out HD.out).mono ?_
  rintro e w3 ⟨rfl, hb3⟩
  have hb3w : Below w.heap.size w w3 := keepS hb3 hb2w
  have HZ3 := Lib.hid (HZ2.out.below hb3)
  go_wp2_with fail
  refine (c45_N b w3).mono ?_
  rintro e w4 ⟨rfl, hb4⟩
  have hb4w : Below w.heap.size w w4 := keepS hb4 hb3w
  obtain ⟨zl, z0, z1, z2, z3, zf⟩ := HZ3.out.below hb4
  go_wp2_with fail
  (refine bodyPost_ret (v := .agg #[.int .i64 1, .float .f64 b, .string ⟨#[]⟩, .slice none 0 0]) ?_ rfl ?_; (focus (first | (simp [results, Tryz.results28, go_sem, hc1, hz1]; done) | (simp [results, Tryz.results28, go_sem]; done) | (simp [results, Tryz.results28, go_sem, *]; done))); exact ret_mk (by repeat (first | (with_reducible exact Below.refl _ _) | (with_reducible assumption) | ((with_reducible refine Below.alloc ?_ ?_ _); rotate_left; focus (first | exact Nat.le_refl _ | omega | (simp; done) | (simp; omega))) | ((with_reducible refine Below.setCell ?_ ?_ _); rotate_left; focus (first | exact Nat.le_refl _ | omega | (simp; done) | (simp; omega))) | (with_reducible refine Below.drew ?_) | (with_reducible refine below_drewN ?_ _) | ((with_reducible refine below_via (by assumption) ?_ ?_); focus (first | exact Nat.le_refl _ | omega | (simp; done) | (simp; omega))))))
set_option maxRecDepth 100000 in
set_option maxHeartbeats 1000000 in
theorem c9M (b : Nat) (ks : List Int) (A : Option Addr) (n c g c0 : Nat) (w : World) (hl : n ≤ 120) (h0 : 0 < n) (hlen : n = ks.length) (hkk : ∀ k, k ∈ ks → -9999 ≤ k ∧ k ≤ 9999) (hx : MRow w g A n c (ks.map fun k => (iN k).cells))
    (hX : ∀ (A : Option Addr) (c L1 L2 B L e : Nat) (p : Option Addr) (W : World), FM W B ks A L1 L2 → DL W L [e] [.iface 68 (fM A n c L1 L2)] → Calls Tryz.prog 47 #[.pointer p, .pointer (some ⟨L, 0, none⟩)] W (Ret W (fN b))) :
    Calls Tryz.prog 9 #[.slice (some ⟨g, 0, none⟩) 1 c0] w (Ret w (.agg #[.int .i64 1, .float .f64 b, .string ⟨#[]⟩, .slice none 0 0])) := by
  have H29 : Hid (∀ W, Below w.heap.size w W → Calls Tryz.prog 29 #[.slice (some ⟨g, 0, none⟩) 1 c0] W (fun e w' => ∃ (g1 c1 : Nat) (A' : Option Addr) (c' : Nat), e = .returned (.slice (some ⟨g1, 0, none⟩) 1 c1) ∧ MRow w' g1 A' n c' (ks.map fun k => (iN k).cells) ∧ Below W.heap.size W w')) :=
    Lib.hid fun W hb => c29M ks A n c g c0 W hl h0 (hx.below hb)
  have HX : Hid (∀ (A : Option Addr) (c g c0 : Nat) W, MRow W g A n c (ks.map fun k => (iN k).cells) → Calls Tryz.prog 28 #[.slice (some ⟨g, 0, none⟩) 1 c0] W (Ret W (.agg #[.int .i64 1, .float .f64 b, .string ⟨#[]⟩, .slice none 0 0]))) := Lib.hid fun A c g c0 W h => c28M b ks A n c g c0 W hl h0 hlen hkk h hX
  clear hx hX hlen hkk
  go_enter Tryz.func9, Tryz.ntmps9
  go_wp2_with fail
  have hbA : Below w.heap.size w (w.alloc (.cells #[.int .i64 0, .float .f64 0, .string ⟨#[]⟩, .slice none 0 0] 27)) := (by repeat (first | (with_reducible exact Below.refl _ _) | (with_reducible assumption) | ((with_reducible refine Below.alloc ?_ ?_ _); rotate_left; focus (first | exact Nat.le_refl _ | omega | (simp; done) | (simp; omega))) | ((with_reducible refine Below.setCell ?_ ?_ _); rotate_left; focus (first | exact Nat.le_refl _ | omega | (simp; done) | (simp; omega))) | (with_reducible refine Below.drew ?_) | (with_reducible refine below_drewN ?_ _) | ((with_reducible refine below_via (by assumption) ?_ ?_); focus (first | exact Nat.le_refl _ | omega | (simp; done) | (simp; omega)))))
  have HZ := Lib.hid (zi_new w 27)
  generalize (w.alloc (.cells #[.int .i64 0, .float .f64 0, .string ⟨#[]⟩, .slice none 0 0] 27)) = W1 at hbA HZ ⊢
  refine (H29.out W1 hbA).mono ?_
  rintro e w1 ⟨g1, c1, A', c', rfl, hm, hb1⟩
  have hb1w : Below w.heap.size w w1 := keepS hb1 hbA
  have HZ1 := Lib.hid (HZ.out.below hb1)
  have HM := Lib.hid hm
  clear hm
  go_wp2_with fail
  refine (HX.out A' c' g1 c1 w1 HM.out).mono ?_
  rintro e w2 ⟨rfl, hb2⟩
  have hb2w : Below w.heap.size w w2 := keepS hb2 hb1w
  have HZ2 := Lib.hid (HZ1.out.below hb2)
  go_wp2_with fail
  refine (c27 ⟨1, b, ⟨#[]⟩⟩ w2).mono ?_
  rintro e w3 ⟨rfl, hb3⟩
  have hb3w : Below w.heap.size w w3 := keepS hb3 hb2w
  obtain ⟨zl, z0, z1, z2, z3, zf⟩ := HZ2.out.below hb3
  go_wp2_with fail
  (refine bodyPost_ret (v := .agg #[.int .i64 1, .float .f64 b, .string ⟨#[]⟩, .slice none 0 0]) ?_ rfl ?_; (focus (first | (simp [results, Tryz.results9, go_sem, hc1, hz1]; done) | (simp [results, Tryz.results9, go_sem]; done) | (simp [results, Tryz.results9, go_sem, *]; done))); exact ret_mk (by repeat (first | (with_reducible exact Below.refl _ _) | (with_reducible assumption) | ((with_reducible refine Below.alloc ?_ ?_ _); rotate_left; focus (first | exact Nat.le_refl _ | omega | (simp; done) | (simp; omega))) | ((with_reducible refine Below.setCell ?_ ?_ _); rotate_left; focus (first | exact Nat.le_refl _ | omega | (simp; done) | (simp; omega))) | (with_reducible refine Below.drew ?_) | (with_reducible refine below_drewN ?_ _) | ((with_reducible refine below_via (by assumption) ?_ ?_); focus (first | exact Nat.le_refl _ | omega | (simp; done) | (simp; omega))))))
set_option maxRecDepth 100000 in
set_option maxHeartbeats 1000000 in
theorem c31M (b : Nat) (ks : List Int) (A : Option Addr) (n c g c0 : Nat) (w : World) (hl : n ≤ 120) (h0 : 0 < n) (hlen : n = ks.length) (hkk : ∀ k, k ∈ ks → -9999 ≤ k ∧ k ≤ 9999) (hx : MRow w g A n c (ks.map fun k => (iN k).cells))
    (hX : ∀ (A : Option Addr) (c L1 L2 B L e : Nat) (p : Option Addr) (W : World), FM W B ks A L1 L2 → DL W L [e] [.iface 68 (fM A n c L1 L2)] → Calls Tryz.prog 50 #[.pointer p, .pointer (some ⟨L, 0, none⟩)] W (Ret W (fN b))) :
    Calls Tryz.prog 31 #[.slice (some ⟨g, 0, none⟩) 1 c0] w (Ret w (.agg #[.int .i64 1, .float .f64 b, .string ⟨#[]⟩, .slice none 0 0])) := by
  have H48 : Hid (∀ W, Below w.heap.size w W → Calls Tryz.prog 48 #[.slice (some ⟨g, 0, none⟩) 1 c0] W (fun e w' => ∃ (L b : Nat) (A' : Option Addr) (c' L1 L2 B : Nat), e = .returned (.pointer (some ⟨L, 0, none⟩)) ∧ DL w' L [b] [.iface 68 (fM A' n c' L1 L2)] ∧ FM w' B ks A' L1 L2 ∧ Below W.heap.size W w')) :=
    Lib.hid fun W hb => c48M ks A n c g c0 W hl h0 hlen hkk (hx.below hb)
  have HX := Lib.hid hX
  clear hx hX hlen hkk
  go_enter Tryz.func31, Tryz.ntmps31
  go_wp2_with fail
  have hbA : Below w.heap.size w (w.alloc (.cells #[.int .i64 0, .float .f64 0, .string ⟨#[]⟩, .slice none 0 0] 52)) := (by repeat (first | (with_reducible exact Below.refl _ _) | (with_reducible assumption) | ((with_reducible refine Below.alloc ?_ ?_ _); rotate_left; focus (first | exact Nat.le_refl _ | omega | (simp; done) | (simp; omega))) | ((with_reducible refine Below.setCell ?_ ?_ _); rotate_left; focus (first | exact Nat.le_refl _ | omega | (simp; done) | (simp; omega))) | (with_reducible refine Below.drew ?_) | (with_reducible refine below_drewN ?_ _) | ((with_reducible refine below_via (by assumption) ?_ ?_); focus (first | exact Nat.le_refl _ | omega | (simp; done) | (simp; omega)))))
  have HZ := Lib.hid (zi_new w 52)
  generalize (w.alloc (.cells #[.int .i64 0, .float .f64 0, .string ⟨#[]⟩, .slice none 0 0] 52)) = W1 at hbA HZ ⊢
  refine (c46 W1).mono ?_
  rintro e w1 ⟨v, rfl, ⟨p, rfl⟩, hb1⟩
  have hb1w : Below w.heap.size w w1 := keepS hb1 hbA
  have HZ1 := Lib.hid (HZ.out.below hb1)
  go_wp2_with fail
  refine (H48.out w1 hb1w).mono ?_
  rintro e w2 ⟨L, b2, A', c', L1, L2, B, rfl, hd, hf, hb2⟩
  have hb2w : Below w.heap.size w w2 := keepS hb2 hb1w
  have HZ2 := Lib.hid (HZ1.out.below hb2)
  have HD := Lib.hid hd
  have HF := Lib.hid hf
  clear hd hf
  go_wp2_with fail
  refine (HX.out A' c' L1 L2 B L b2 p w2 HF.out HD.out).mono ?_
  rintro e w3 ⟨rfl, hb3⟩
  have hb3w : Below w.heap.size w w3 := keepS hb3 hb2w
  have HZ3 := Lib.hid (HZ2.out.below hb3)
  go_wp2_with fail
  refine (c45_N b w3).mono ?_
  rintro e w4 ⟨rfl, hb4⟩
  have hb4w : Below w.heap.size w w4 := keepS hb4 hb3w
  obtain ⟨zl, z0, z1, z2, z3, zf⟩ := HZ3.out.below hb4
  go_wp2_with fail
  (refine bodyPost_ret (v := .agg #[.int .i64 1, .float .f64 b, .string ⟨#[]⟩, .slice none 0 0]) ?_ rfl ?_; (focus (first | (simp [results, Tryz.results31, go_sem, hc1, hz1]; done) | (simp [results, Tryz.results31, go_sem]; done) | (simp [results, Tryz.results31, go_sem, *]; done))); exact ret_mk (by repeat (first | (with_reducible exact Below.refl _ _) | (with_reducible assumption) | ((with_reducible refine Below.alloc ?_ ?_ _); rotate_left; focus (first | exact Nat.le_refl _ | omega | (simp; done) | (simp; omega))) | ((with_reducible refine Below.setCell ?_ ?_ _); rotate_left; focus (first | exact Nat.le_refl _ | omega | (simp; done) | (simp; omega))) | (with_reducible refine Below.drew ?_) | (with_reducible refine below_drewN ?_ _) | ((with_reducible refine below_via (by assumption) ?_ ?_); focus (first | exact Nat.le_refl _ | omega | (simp; done) | (simp; omega))))))
set_option maxRecDepth 100000 in
set_option maxHeartbeats 1000000 in
theorem c11M (b : Nat) (ks : List Int) (A : Option Addr) (n c g c0 : Nat) (w : World) (hl : n ≤ 120) (h0 : 0 < n) (hlen : n = ks.length) (hkk : ∀ k, k ∈ ks → -9999 ≤ k ∧ k ≤ 9999) (hx : MRow w g A n c (ks.map fun k => (iN k).cells))
    (hX : ∀ (A : Option Addr) (c L1 L2 B L e : Nat) (p : Option Addr) (W : World), FM W B ks A L1 L2 → DL W L [e] [.iface 68 (fM A n c L1 L2)] → Calls Tryz.prog 50 #[.pointer p, .pointer (some ⟨L, 0, none⟩)] W (Ret W (fN b))) :
    Calls Tryz.prog 11 #[.slice (some ⟨g, 0, none⟩) 1 c0] w (Ret w (.agg #[.int .i64 1, .float .f64 b, .string ⟨#[]⟩, .slice none 0 0])) := by
  have H29 : Hid (∀ W, Below w.heap.size w W → Calls Tryz.prog 29 #[.slice (some ⟨g, 0, none⟩) 1 c0] W (fun e w' => ∃ (g1 c1 : Nat) (A' : Option Addr) (c' : Nat), e = .returned (.slice (some ⟨g1, 0, none⟩) 1 c1) ∧ MRow w' g1 A' n c' (ks.map fun k => (iN k).cells) ∧ Below W.heap.size W w')) :=
    Lib.hid fun W hb => c29M ks A n c g c0 W hl h0 (hx.below hb)
  have HX : Hid (∀ (A : Option Addr) (c g c0 : Nat) W, MRow W g A n c (ks.map fun k => (iN k).cells) → Calls Tryz.prog 31 #[.slice (some ⟨g, 0, none⟩) 1 c0] W (Ret W (.agg #[.int .i64 1, .float .f64 b, .string ⟨#[]⟩, .slice none 0 0]))) := Lib.hid fun A c g c0 W h => c31M b ks A n c g c0 W hl h0 hlen hkk h hX
  clear hx hX hlen hkk
  go_enter Tryz.func11, Tryz.ntmps11
  go_wp2_with fail
  have hbA : Below w.heap.size w (w.alloc (.cells #[.int .i64 0, .float .f64 0, .string ⟨#[]⟩, .slice none 0 0] 27)) := (by repeat (first | (with_reducible exact Below.refl _ _) | (with_reducible assumption) | ((with_reducible refine Below.alloc ?_ ?_ _); rotate_left; focus (first | exact Nat.le_refl _ | omega | (simp; done) | (simp; omega))) | ((with_reducible refine Below.setCell ?_ ?_ _); rotate_left; focus (first | exact Nat.le_refl _ | omega | (simp; done) | (simp; omega))) | (with_reducible refine Below.drew ?_) | (with_reducible refine below_drewN ?_ _) | ((with_reducible refine below_via (by assumption) ?_ ?_); focus (first | exact Nat.le_refl _ | omega | (simp; done) | (simp; omega)))))
  have HZ := Lib.hid (zi_new w 27)
  generalize (w.alloc (.cells #[.int .i64 0, .float .f64 0, .string ⟨#[]⟩, .slice none 0 0] 27)) = W1 at hbA HZ ⊢
  refine (H29.out W1 hbA).mono ?_
  rintro e w1 ⟨g1, c1, A', c', rfl, hm, hb1⟩
  have hb1w : Below w.heap.size w w1 := keepS hb1 hbA
  have HZ1 := Lib.hid (HZ.out.below hb1)
  have HM := Lib.hid hm
  clear hm
  go_wp2_with fail
  refine (HX.out A' c' g1 c1 w1 HM.out).mono ?_
  rintro e w2 ⟨rfl, hb2⟩
  have hb2w : Below w.heap.size w w2 := keepS hb2 hb1w
  have HZ2 := Lib.hid (HZ1.out.below hb2)
  go_wp2_with fail
  refine (c27 ⟨1, b, ⟨#[]⟩⟩ w2).mono ?_
  rintro e w3 ⟨rfl, hb3⟩
  have hb3w : Below w.heap.size w w3 := keepS hb3 hb2w
  obtain ⟨zl, z0, z1, z2, z3, zf⟩ := HZ2.out.below hb3
  go_wp2_with fail
  (refine bodyPost_ret (v := .agg #[.int .i64 1, .float .f64 b, .string ⟨#[]⟩, .slice none 0 0]) ?_ rfl ?_; (focus (first | (simp [results, Tryz.results11, go_sem, hc1, hz1]; done) | (simp [results, Tryz.results11, go_sem]; done) | (simp [results, Tryz.results11, go_sem, *]; done))); exact ret_mk (by repeat (first | (with_reducible exact Below.refl _ _) | (with_reducible assumption) | ((with_reducible refine Below.alloc ?_ ?_ _); rotate_left; focus (first | exact Nat.le_refl _ | omega | (simp; done) | (simp; omega))) | ((with_reducible refine Below.setCell ?_ ?_ _); rotate_left; focus (first | exact Nat.le_refl _ | omega | (simp; done) | (simp; omega))) | (with_reducible refine Below.drew ?_) | (with_reducible refine below_drewN ?_ _) | ((with_reducible refine below_via (by assumption) ?_ ?_); focus (first | exact Nat.le_refl _ | omega | (simp; done) | (simp; omega))))))
set_option maxRecDepth 100000 in
set_option maxHeartbeats 1000000 in
theorem c32M (b : Nat) (ks : List Int) (A : Option Addr) (n c g c0 : Nat) (w : World) (hl : n ≤ 120) (h0 : 0 < n) (hlen : n = ks.length) (hkk : ∀ k, k ∈ ks → -9999 ≤ k ∧ k ≤ 9999) (hx : MRow w g A n c (ks.map fun k => (iN k).cells))
    (hX : ∀ (A : Option Addr) (c L1 L2 B L e : Nat) (p : Option Addr) (W : World), FM W B ks A L1 L2 → DL W L [e] [.iface 68 (fM A n c L1 L2)] → Calls Tryz.prog 51 #[.pointer p, .pointer (some ⟨L, 0, none⟩)] W (Ret W (fN b))) :
    Calls Tryz.prog 32 #[.slice (some ⟨g, 0, none⟩) 1 c0] w (Ret w (.agg #[.int .i64 1, .float .f64 b, .string ⟨#[]⟩, .slice none 0 0])) := by
  have H48 : Hid (∀ W, Below w.heap.size w W → Calls Tryz.prog 48 #[.slice (some ⟨g, 0, none⟩) 1 c0] W (fun e w' => ∃ (L b : Nat) (A' : Option Addr) (c' L1 L2 B : Nat), e = .returned (.pointer (some ⟨L, 0, none⟩)) ∧ DL w' L [b] [.iface 68 (fM A' n c' L1 L2)] ∧ FM w' B ks A' L1 L2 ∧ Below W.heap.size W w')) :=
    Lib.hid fun W hb => c48M ks A n c g c0 W hl h0 hlen hkk (hx.below hb)
  have HX := Lib.hid hX
  clear hx hX hlen hkk
  go_enter Tryz.func32, Tryz.ntmps32
  go_wp2_with fail
  have hbA : Below w.heap.size w (w.alloc (.cells #[.int .i64 0, .float .f64 0, .string ⟨#[]⟩, .slice none 0 0] 52)) := (by repeat (first | (with_reducible exact Below.refl _ _) | (with_reducible assumption) | ((with_reducible refine Below.alloc ?_ ?_ _); rotate_left; focus (first | exact Nat.le_refl _ | omega | (simp; done) | (simp; omega))) | ((with_reducible refine Below.setCell ?_ ?_ _); rotate_left; focus (first | exact Nat.le_refl _ | omega | (simp; done) | (simp; omega))) | (with_reducible refine Below.drew ?_) | (with_reducible refine below_drewN ?_ _) | ((with_reducible refine below_via (by assumption) ?_ ?_); focus (first | exact Nat.le_refl _ | omega | (simp; done) | (simp; omega)))))
  have HZ := Lib.hid (zi_new w 52)
  generalize (w.alloc (.cells #[.int .i64 0, .float .f64 0, .string ⟨#[]⟩, .slice none 0 0] 52)) = W1 at hbA HZ ⊢
  refine (c46 W1).mono ?_
  rintro e w1 ⟨v, rfl, ⟨p, rfl⟩, hb1⟩
  have hb1w : Below w.heap.size w w1 := keepS hb1 hbA
  have HZ1 := Lib.hid (HZ.out.below hb1)
  go_wp2_with fail
  refine (H48.out w1 hb1w).mono ?_
  rintro e w2 ⟨L, b2, A', c', L1, L2, B, rfl, hd, hf, hb2⟩
  have hb2w : Below w.heap.size w w2 := keepS hb2 hb1w
  have HZ2 := Lib.hid (HZ1.out.below hb2)
  have HD := Lib.hid hd
  have HF := Lib.hid hf
  clear hd hf
  go_wp2_with fail
  refine (HX.out A' c' L1 L2 B L b2 p w2 HF.out HD.out).mono ?_
  rintro e w3 ⟨rfl, hb3⟩
  have hb3w : Below w.heap.size w w3 := keepS hb3 hb2w
  have HZ3 := Lib.hid (HZ2.out.below hb3)
  go_wp2_with fail
  refine (c45_N b w3).mono ?_
  rintro e w4 ⟨rfl, hb4⟩
  have hb4w : Below w.heap.size w w4 := keepS hb4 hb3w
  obtain ⟨zl, z0, z1, z2, z3, zf⟩ := HZ3.out.below hb4
  go_wp2_with fail
  (refine bodyPost_ret (v := .agg #[.int .i64 1, .float .f64 b, .string ⟨#[]⟩, .slice none 0 0]) ?_ rfl ?_; (focus (first | (simp [results, Tryz.results32, go_sem, hc1, hz1]; done) | (simp [results, Tryz.results32, go_sem]; done) | (simp [results, Tryz.results32, go_sem, *]; done))); exact ret_mk (by repeat (first | (with_reducible exact Below.refl _ _) | (with_reducible assumption) | ((with_reducible refine Below.alloc ?_ ?_ _); rotate_left; focus (first | exact Nat.le_refl _ | omega | (simp; done) | (simp; omega))) | ((with_reducible refine Below.setCell ?_ ?_ _); rotate_left; focus (first | exact Nat.le_refl _ | omega | (simp; done) | (simp; omega))) | (with_reducible refine Below.drew ?_) | (with_reducible refine below_drewN ?_ _) | ((with_reducible refine below_via (by assumption) ?_ ?_); focus (first | exact Nat.le_refl _ | omega | (simp; done) | (simp; omega))))))
set_option maxRecDepth 100000 in
set_option maxHeartbeats 1000000 in
theorem c12M (b : Nat) (ks : List Int) (A : Option Addr) (n c g c0 : Nat) (w : World) (hl : n ≤ 120) (h0 : 0 < n) (hlen : n = ks.length) (hkk : ∀ k, k ∈ ks → -9999 ≤ k ∧ k ≤ 9999) (hx : MRow w g A n c (ks.map fun k => (iN k).cells))
    (hX : ∀ (A : Option Addr) (c L1 L2 B L e : Nat) (p : Option Addr) (W : World), FM W B ks A L1 L2 → DL W L [e] [.iface 68 (fM A n c L1 L2)] → Calls Tryz.prog 51 #[.pointer p, .pointer (some ⟨L, 0, none⟩)] W (Ret W (fN b))) :
    Calls Tryz.prog 12 #[.slice (some ⟨g, 0, none⟩) 1 c0] w (Ret w (.agg #[.int .i64 1, .float .f64 b, .string ⟨#[]⟩, .slice none 0 0])) := by
  have H29 : Hid (∀ W, Below w.heap.size w W → Calls Tryz.prog 29 #[.slice (some ⟨g, 0, none⟩) 1 c0] W (fun e w' => ∃ (g1 c1 : Nat) (A' : Option Addr) (c' : Nat), e = .returned (.slice (some ⟨g1, 0, none⟩) 1 c1) ∧ MRow w' g1 A' n c' (ks.map fun k => (iN k).cells) ∧ Below W.heap.size W w')) :=
    Lib.hid fun W hb => c29M ks A n c g c0 W hl h0 (hx.below hb)
  have HX : Hid (∀ (A : Option Addr) (c g c0 : Nat) W, MRow W g A n c (ks.map fun k => (iN k).cells) → Calls Tryz.prog 32 #[.slice (some ⟨g, 0, none⟩) 1 c0] W (Ret W (.agg #[.int .i64 1, .float .f64 b, .string ⟨#[]⟩, .slice none 0 0]))) := Lib.hid fun A c g c0 W h => c32M b ks A n c g c0 W hl h0 hlen hkk h hX
  clear hx hX hlen hkk
  go_enter Tryz.func12, Tryz.ntmps12
  go_wp2_with fail
  have hbA : Below w.heap.size w (w.alloc (.cells #[.int .i64 0, .float .f64 0, .string ⟨#[]⟩, .slice none 0 0] 27)) := (by repeat (first | (with_reducible exact Below.refl _ _) | (with_reducible assumption) | ((with_reducible refine Below.alloc ?_ ?_ _); rotate_left; focus (first | exact Nat.le_refl _ | omega | (simp; done) | (simp; omega))) | ((with_reducible refine Below.setCell ?_ ?_ _); rotate_left; focus (first | exact Nat.le_refl _ | omega | (simp; done) | (simp; omega))) | (with_reducible refine Below.drew ?_) | (with_reducible refine below_drewN ?_ _) | ((with_reducible refine below_via (by assumption) ?_ ?_); focus (first | exact Nat.le_refl _ | omega | (simp; done) | (simp; omega)))))
  have HZ := Lib.hid (zi_new w 27)
  generalize (w.alloc (.cells #[.int .i64 0, .float .f64 0, .string ⟨#[]⟩, .slice none 0 0] 27)) = W1 at hbA HZ ⊢
  refine (H29.out W1 hbA).mono ?_
  rintro e w1 ⟨g1, c1, A', c', rfl, hm, hb1⟩
  have hb1w : Below w.heap.size w w1 := keepS hb1 hbA
  have HZ1 := Lib.hid (HZ.out.below hb1)
  have HM := Lib.hid hm
  clear hm
  go_wp2_with fail
  refine (HX.out A' c' g1 c1 w1 HM.out).mono ?_
  rintro e w2 ⟨rfl, hb2⟩
  have hb2w : Below w.heap.size w w2 := keepS hb2 hb1w
  have HZ2 := Lib.hid (HZ1.out.below hb2)
  go_wp2_with fail
  refine (c27 ⟨1, b, ⟨#[]⟩⟩ w2).mono ?_
  rintro e w3 ⟨rfl, hb3⟩
  have hb3w : Below w.heap.size w w3 := keepS hb3 hb2w
  obtain ⟨zl, z0, z1, z2, z3, zf⟩ := HZ2.out.below hb3
  go_wp2_with fail
  (refine bodyPost_ret (v := .agg #[.int .i64 1, .float .f64 b, .string ⟨#[]⟩, .slice none 0 0]) ?_ rfl ?_; (focus (first | (simp [results, Tryz.results12, go_sem, hc1, hz1]; done) | (simp [results, Tryz.results12, go_sem]; done) | (simp [results, Tryz.results12, go_sem, *]; done))); exact ret_mk (by repeat (first | (with_reducible exact Below.refl _ _) | (with_reducible assumption) | ((with_reducible refine Below.alloc ?_ ?_ _); rotate_left; focus (first | exact Nat.le_refl _ | omega | (simp; done) | (simp; omega))) | ((with_reducible refine Below.setCell ?_ ?_ _); rotate_left; focus (first | exact Nat.le_refl _ | omega | (simp; done) | (simp; omega))) | (with_reducible refine Below.drew ?_) | (with_reducible refine below_drewN ?_ _) | ((with_reducible refine below_via (by assumption) ?_ ?_); focus (first | exact Nat.le_refl _ | omega | (simp; done) | (simp; omega))))))
end Go.Proofs.YtkhgaenffnoimaaGreatDoor
