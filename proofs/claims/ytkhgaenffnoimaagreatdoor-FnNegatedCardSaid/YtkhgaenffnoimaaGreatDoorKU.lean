/- The door of COUNTIF, of a matrix and a text; ask. -/
import Derived.Test.YtkhgaenffnoimaaGreatDoorKT
set_option linter.unusedSimpArgs false
set_option linter.unusedVariables false
namespace Go.Proofs.YtkhgaenffnoimaaGreatDoor
open Go.RowKit FL
attribute [local go_sem] run_store_float as64
set_option maxRecDepth 100000 in
set_option maxHeartbeats 1000000 in
theorem c35MT (b : Nat) (ks : List Int) (s : ByteArray) (A : Option Addr) (n c g c0 : Nat) (w : World) (hl : n ≤ 120) (h0 : 0 < n) (hlen : n = ks.length) (hkk : ∀ k, k ∈ ks → -9999 ≤ k ∧ k ≤ 9999) (hx : MTRow w g A n c (ks.map fun k => (iN k).cells) s)
    (hX : ∀ (A : Option Addr) (c L1 L2 B L e e2 : Nat) (p : Option Addr) (W : World), Below w.heap.size w W → FM W B ks A L1 L2 → DL W L [e, e2] [.iface 68 (fM A n c L1 L2), .iface 68 (fS s)] → Calls Tryz.prog 52 #[.pointer p, .pointer (some ⟨L, 0, none⟩)] W (Ret W (fN b))) :
    Calls Tryz.prog 35 #[.slice (some ⟨g, 0, none⟩) 2 c0] w (Ret w (.agg #[.int .i64 1, .float .f64 b, .string ⟨#[]⟩, .slice none 0 0])) := by
  have H48 : Hid (∀ W, Below w.heap.size w W → Calls Tryz.prog 48 #[.slice (some ⟨g, 0, none⟩) 2 c0] W (fun e w' => ∃ (L b b2 : Nat) (A' : Option Addr) (c' L1 L2 B : Nat), e = .returned (.pointer (some ⟨L, 0, none⟩)) ∧ DL w' L [b, b2] [.iface 68 (fM A' n c' L1 L2), .iface 68 (fS s)] ∧ FM w' B ks A' L1 L2 ∧ Below W.heap.size W w')) :=
    Lib.hid fun W hb => c48MT ks s A n c g c0 W hl h0 hlen hkk (hx.below hb)
  have HX := Lib.hid hX
  clear hx hX hlen hkk
  go_enter Tryz.func35, Tryz.ntmps35
  go_wp2_with fail
  have hbA : Below w.heap.size w (w.alloc (.cells #[.int .i64 0, .float .f64 0, .string ⟨#[]⟩, .slice none 0 0] 52)) := (by repeat (first | (with_reducible exact Below.refl _ _) | (with_reducible assumption) | ((with_reducible refine Below.alloc ?_ ?_ _); rotate_left; focus (first | exact Nat.le_refl _ | omega | (simp; done) | (simp; omega))) | ((with_reducible refine Below.setCell ?_ ?_ _); rotate_left; focus (first | exact Nat.le_refl _ | omega | (simp; done) | (simp; omega))) | (with_reducible refine Below.drew ?_) | (with_reducible refine below_drewN ?_ _) | ((with_reducible refine below_via (by assumption) ?_ ?_); focus (first | exact Nat.le_refl _ | omega | (simp; done) | (simp; omega)))))
  have HZ := Lib.hid (zi_new w 52)
  generalize (w.alloc (.cells #[.int .i64 0, .float .f64 0, .string ⟨#[]⟩, .slice none 0 0] 52)) = W1 at hbA HZ ⊢
  refine (c46 W1).mono ?_
  rintro e w1 ⟨v, rfl, ⟨p, rfl⟩, hb1⟩
  have hb1w : Below w.heap.size w w1 := keepS hb1 hbA
  have HZ1 := Lib.hid (HZ.out.below hb1)
  go_wp2_with fail
  refine (H48.out w1 hb1w).mono ?_
  rintro e w2 ⟨L, b2, b3, A', c', L1, L2, B, rfl, hd, hf, hb2⟩
  have hb2w : Below w.heap.size w w2 := keepS hb2 hb1w
  have HZ2 := Lib.hid (HZ1.out.below hb2)
  have HD := Lib.hid hd
  have HF := Lib.hid hf
  clear hd hf
  go_wp2_with fail
  refine (HX.out A' c' L1 L2 B L b2 b3 p w2 hb2w HF.out HD.out).mono ?_
  rintro e w3 ⟨rfl, hb3⟩
  have hb3w : Below w.heap.size w w3 := keepS hb3 hb2w
  have HZ3 := Lib.hid (HZ2.out.below hb3)
  go_wp2_with fail
  refine (c45_N b w3).mono ?_
  rintro e w4 ⟨rfl, hb4⟩
  have hb4w : Below w.heap.size w w4 := keepS hb4 hb3w
  obtain ⟨zl, z0, z1, z2, z3, zf⟩ := HZ3.out.below hb4
  go_wp2_with fail
  (refine bodyPost_ret (v := .agg #[.int .i64 1, .float .f64 b, .string ⟨#[]⟩, .slice none 0 0]) ?_ rfl ?_; (focus (first | (simp [results, Tryz.results35, go_sem, hc1, hz1]; done) | (simp [results, Tryz.results35, go_sem]; done) | (simp [results, Tryz.results35, go_sem, *]; done))); exact ret_mk (by repeat (first | (with_reducible exact Below.refl _ _) | (with_reducible assumption) | ((with_reducible refine Below.alloc ?_ ?_ _); rotate_left; focus (first | exact Nat.le_refl _ | omega | (simp; done) | (simp; omega))) | ((with_reducible refine Below.setCell ?_ ?_ _); rotate_left; focus (first | exact Nat.le_refl _ | omega | (simp; done) | (simp; omega))) | (with_reducible refine Below.drew ?_) | (with_reducible refine below_drewN ?_ _) | ((with_reducible refine below_via (by assumption) ?_ ?_); focus (first | exact Nat.le_refl _ | omega | (simp; done) | (simp; omega))))))
set_option maxRecDepth 100000 in
set_option maxHeartbeats 1000000 in
theorem c16MT (b : Nat) (ks : List Int) (s : ByteArray) (A : Option Addr) (n c g c0 : Nat) (w : World) (hl : n ≤ 120) (h0 : 0 < n) (hlen : n = ks.length) (hkk : ∀ k, k ∈ ks → -9999 ≤ k ∧ k ≤ 9999) (hx : MTRow w g A n c (ks.map fun k => (iN k).cells) s)
    (hX : ∀ (A : Option Addr) (c L1 L2 B L e e2 : Nat) (p : Option Addr) (W : World), Below w.heap.size w W → FM W B ks A L1 L2 → DL W L [e, e2] [.iface 68 (fM A n c L1 L2), .iface 68 (fS s)] → Calls Tryz.prog 52 #[.pointer p, .pointer (some ⟨L, 0, none⟩)] W (Ret W (fN b))) :
    Calls Tryz.prog 16 #[.slice (some ⟨g, 0, none⟩) 2 c0] w (Ret w (.agg #[.int .i64 1, .float .f64 b, .string ⟨#[]⟩, .slice none 0 0])) := by
  have H29 : Hid (∀ W, Below w.heap.size w W → Calls Tryz.prog 29 #[.slice (some ⟨g, 0, none⟩) 2 c0] W (fun e w' => ∃ (g1 c1 : Nat) (A' : Option Addr) (c' : Nat), e = .returned (.slice (some ⟨g1, 0, none⟩) 2 c1) ∧ MTRow w' g1 A' n c' (ks.map fun k => (iN k).cells) s ∧ Below W.heap.size W w')) :=
    Lib.hid fun W hb => c29MT ks s A n c g c0 W hl h0 (hx.below hb)
  have HX : Hid (∀ (A : Option Addr) (c g c0 : Nat) W, Below w.heap.size w W → MTRow W g A n c (ks.map fun k => (iN k).cells) s → Calls Tryz.prog 35 #[.slice (some ⟨g, 0, none⟩) 2 c0] W (Ret W (.agg #[.int .i64 1, .float .f64 b, .string ⟨#[]⟩, .slice none 0 0]))) := Lib.hid fun A c g c0 W hw h => c35MT b ks s A n c g c0 W hl h0 hlen hkk h fun A c L1 L2 B L e e2 p W1 hW1 => hX A c L1 L2 B L e e2 p W1 (keepS hW1 hw)
  clear hx hX hlen hkk
  go_enter Tryz.func16, Tryz.ntmps16
  go_wp2_with fail
  have hbA : Below w.heap.size w (w.alloc (.cells #[.int .i64 0, .float .f64 0, .string ⟨#[]⟩, .slice none 0 0] 27)) := (by repeat (first | (with_reducible exact Below.refl _ _) | (with_reducible assumption) | ((with_reducible refine Below.alloc ?_ ?_ _); rotate_left; focus (first | exact Nat.le_refl _ | omega | (simp; done) | (simp; omega))) | ((with_reducible refine Below.setCell ?_ ?_ _); rotate_left; focus (first | exact Nat.le_refl _ | omega | (simp; done) | (simp; omega))) | (with_reducible refine Below.drew ?_) | (with_reducible refine below_drewN ?_ _) | ((with_reducible refine below_via (by assumption) ?_ ?_); focus (first | exact Nat.le_refl _ | omega | (simp; done) | (simp; omega)))))
  have HZ := Lib.hid (zi_new w 27)
  generalize (w.alloc (.cells #[.int .i64 0, .float .f64 0, .string ⟨#[]⟩, .slice none 0 0] 27)) = W1 at hbA HZ ⊢
  refine (H29.out W1 hbA).mono ?_
  rintro e w1 ⟨g1, c1, A', c', rfl, hm, hb1⟩
  have hb1w : Below w.heap.size w w1 := keepS hb1 hbA
  have HZ1 := Lib.hid (HZ.out.below hb1)
  have HM := Lib.hid hm
  clear hm
  go_wp2_with fail
  refine (HX.out A' c' g1 c1 w1 hb1w HM.out).mono ?_
  rintro e w2 ⟨rfl, hb2⟩
  have hb2w : Below w.heap.size w w2 := keepS hb2 hb1w
  have HZ2 := Lib.hid (HZ1.out.below hb2)
  go_wp2_with fail
  refine (c27 ⟨1, b, ⟨#[]⟩⟩ w2).mono ?_
  rintro e w3 ⟨rfl, hb3⟩
  have hb3w : Below w.heap.size w w3 := keepS hb3 hb2w
  obtain ⟨zl, z0, z1, z2, z3, zf⟩ := HZ2.out.below hb3
  go_wp2_with fail
  (refine bodyPost_ret (v := .agg #[.int .i64 1, .float .f64 b, .string ⟨#[]⟩, .slice none 0 0]) ?_ rfl ?_; (focus (first | (simp [results, Tryz.results16, go_sem, hc1, hz1]; done) | (simp [results, Tryz.results16, go_sem]; done) | (simp [results, Tryz.results16, go_sem, *]; done))); exact ret_mk (by repeat (first | (with_reducible exact Below.refl _ _) | (with_reducible assumption) | ((with_reducible refine Below.alloc ?_ ?_ _); rotate_left; focus (first | exact Nat.le_refl _ | omega | (simp; done) | (simp; omega))) | ((with_reducible refine Below.setCell ?_ ?_ _); rotate_left; focus (first | exact Nat.le_refl _ | omega | (simp; done) | (simp; omega))) | (with_reducible refine Below.drew ?_) | (with_reducible refine below_drewN ?_ _) | ((with_reducible refine below_via (by assumption) ?_ ?_); focus (first | exact Nat.le_refl _ | omega | (simp; done) | (simp; omega))))))
set_option maxRecDepth 100000 in
set_option maxHeartbeats 1000000 in
/-- ask of a table and a text: COUNTIF answers the number of the bits b. -/
theorem c8MT (b : Nat) (ks : List Int) (s : ByteArray) (A : Option Addr) (c g : Nat) (w : World) (hl : ks.length ≤ 120) (h0 : 0 < ks.length) (hkk : ∀ k, k ∈ ks → -9999 ≤ k ∧ k ≤ 9999) (hx : Col w A 5 (ks.map fun k => (vN k).cells))
    (hg : g < w.heap.size) (e0 : w.cell? ⟨g, 0, none⟩ = some (.int .i64 5)) (e1 : w.cell? ⟨g, 1, none⟩ = some (.int .i64 0)) (e2 : w.cell? ⟨g, 2, none⟩ = some (.int .i64 0)) (e3 : w.cell? ⟨g, 3, none⟩ = some (.string ⟨#[]⟩)) (e4 : w.cell? ⟨g, 4, none⟩ = some (.slice A ks.length c))
    (e5 : w.cell? ⟨g, 5, none⟩ = some (.int .i64 2)) (e6 : w.cell? ⟨g, 6, none⟩ = some (.int .i64 0)) (e7 : w.cell? ⟨g, 7, none⟩ = some (.int .i64 0)) (e8 : w.cell? ⟨g, 8, none⟩ = some (.string s)) (e9 : w.cell? ⟨g, 9, none⟩ = some (.slice none 0 0))
    (hF : ∀ W g1 c1 A' c', Below w.heap.size w W → MTRow W g1 A' ks.length c' (ks.map fun k => (iN k).cells) s → Calls Tryz.prog 16 #[.slice (some ⟨g1, 0, none⟩) 2 c1] W (Ret W (.agg #[.int .i64 1, .float .f64 b, .string ⟨#[]⟩, .slice none 0 0]))) :
    Calls Tryz.prog 8 #[.func (.func 16) #[] #[], .slice (some ⟨g, 0, none⟩) 2 2] w (Ret w (.agg #[.int .i64 1, .float .f64 b, .string ⟨#[]⟩, .slice none 0 0])) := by
  have H26 : Hid (∀ W, Below w.heap.size w W → Calls Tryz.prog 26 #[.slice (some ⟨g, 0, none⟩) 2 2] W (fun e w' => ∃ (g1 c1 : Nat) (A' : Option Addr) (c' : Nat), e = .returned (.slice (some ⟨g1, 0, none⟩) 2 c1) ∧ MTRow w' g1 A' ks.length c' (ks.map fun k => (iN k).cells) s ∧ Below W.heap.size W w')) :=
    Lib.hid fun W hb => c26MT ks s A c g W hl h0 hkk (hx.below hb) (Nat.lt_of_lt_of_le hg hb.size) ((hb.cell (p := ⟨g, _, none⟩) hg).trans e0) ((hb.cell (p := ⟨g, _, none⟩) hg).trans e1) ((hb.cell (p := ⟨g, _, none⟩) hg).trans e2) ((hb.cell (p := ⟨g, _, none⟩) hg).trans e3) ((hb.cell (p := ⟨g, _, none⟩) hg).trans e4)
      ((hb.cell (p := ⟨g, _, none⟩) hg).trans e5) ((hb.cell (p := ⟨g, _, none⟩) hg).trans e6) ((hb.cell (p := ⟨g, _, none⟩) hg).trans e7) ((hb.cell (p := ⟨g, _, none⟩) hg).trans e8) ((hb.cell (p := ⟨g, _, none⟩) hg).trans e9)
  have HF := Lib.hid hF
  have hent : ∀ (args : Array Value) (W : World), (callFunc 16 args).run Tryz.prog W = .ok (.enter 16 args) W := fun args W => by simp [go_sem]
  clear hF hkk hx e0 e1 e2 e3 e4 e5 e6 e7 e8 e9 h0 hl hg
  obtain ⟨n, hn⟩ : ∃ n, n = ks.length := ⟨_, rfl⟩
  rw [← hn] at H26 HF
  clear hn
  go_enter Tryz.func8, Tryz.ntmps8
  go_wp2_with fail
  have hMZ : Hid (MCell (w.alloc (.cells #[.int .i64 0, .float .f64 0, .string ⟨#[]⟩, .slice none 0 0] 27)) w.heap.size 0 (.slice none 0 0)) := Lib.hid ⟨by simp, by simp [go_sem], by simp [go_sem], by simp [go_sem], by simp [go_sem], fun o => by simp [go_sem]⟩
  have hbA : Below w.heap.size w (w.alloc (.cells #[.int .i64 0, .float .f64 0, .string ⟨#[]⟩, .slice none 0 0] 27)) := (by repeat (first | (with_reducible exact Below.refl _ _) | (with_reducible assumption) | ((with_reducible refine Below.alloc ?_ ?_ _); rotate_left; focus (first | exact Nat.le_refl _ | omega | (simp; done) | (simp; omega))) | ((with_reducible refine Below.setCell ?_ ?_ _); rotate_left; focus (first | exact Nat.le_refl _ | omega | (simp; done) | (simp; omega))) | (with_reducible refine Below.drew ?_) | (with_reducible refine below_drewN ?_ _) | ((with_reducible refine below_via (by assumption) ?_ ?_); focus (first | exact Nat.le_refl _ | omega | (simp; done) | (simp; omega)))))
  have hsA : (w.alloc (.cells #[.int .i64 0, .float .f64 0, .string ⟨#[]⟩, .slice none 0 0] 27)).heap.size = w.heap.size + 1 := by simp
  generalize (w.alloc (.cells #[.int .i64 0, .float .f64 0, .string ⟨#[]⟩, .slice none 0 0] 27)) = W1 at hMZ hbA hsA ⊢
  refine (H26.out _ hbA).mono ?_
  rintro e w1 ⟨g1, c1, A1, c2, rfl, hm, hb1⟩
  have HM := Lib.hid hm
  have hb1w : Below w.heap.size w w1 := keepS hb1 hbA
  clear hm
  go_wp2_with fail
  refine (HF.out w1 g1 c1 A1 c2 hb1w HM.out).mono ?_
  rintro e w2 ⟨rfl, hb2⟩
  obtain ⟨hzl, z0, z1, z2, z3, zf⟩ := (hMZ.out.below hMZ.out.lt hb1).below (Nat.lt_of_lt_of_le hMZ.out.lt hb1.size) hb2
  have hbf : Below w.heap.size w w2 := (hbA.trans (hb1.mono (by omega))).trans (hb2.mono (by have := hb1.size; omega))
  go_wp2_with fail
  (refine bodyPost_ret (v := .agg #[.int .i64 1, .float .f64 b, .string ⟨#[]⟩, .slice none 0 0]) ?_ rfl ?_; (focus (first | (simp [results, Tryz.results8, go_sem, hc1, hz1]; done) | (simp [results, Tryz.results8, go_sem]; done) | (simp [results, Tryz.results8, go_sem, *]; done))); exact ret_mk (by repeat (first | (with_reducible exact Below.refl _ _) | (with_reducible assumption) | ((with_reducible refine Below.alloc ?_ ?_ _); rotate_left; focus (first | exact Nat.le_refl _ | omega | (simp; done) | (simp; omega))) | ((with_reducible refine Below.setCell ?_ ?_ _); rotate_left; focus (first | exact Nat.le_refl _ | omega | (simp; done) | (simp; omega))) | (with_reducible refine Below.drew ?_) | (with_reducible refine below_drewN ?_ _) | ((with_reducible refine below_via (by assumption) ?_ ?_); focus (first | exact Nat.le_refl _ | omega | (simp; done) | (simp; omega))))))
end Go.Proofs.YtkhgaenffnoimaaGreatDoor
