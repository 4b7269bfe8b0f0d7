/- innerList of a matrix and a text. -/
import Derived.Test.YtkhgaenffnoimaaGreatDoorKQ
import Derived.Test.YtkhgaenffnoimaaGreatDoorM9
set_option linter.unusedSimpArgs false
set_option linter.unusedVariables false
namespace Go.Proofs.YtkhgaenffnoimaaGreatDoor
open Go.RowKit
attribute [local go_sem] run_store_float as64
theorem FM.step {w w' : World} {B : Nat} {ks : List Int} {A : Option Addr} {L1 L2 : Nat} (h : FM w B ks A L1 L2) (hs : w.heap.size ≤ w'.heap.size)
    (hc : ∀ b o, B ≤ b → b < w.heap.size → w'.cell? ⟨b, o, none⟩ = w.cell? ⟨b, o, none⟩) (hf : ∀ b o, B ≤ b → b < w.heap.size → w'.frozen? ⟨b, o, none⟩ = w.frozen? ⟨b, o, none⟩) : FM w' B ks A L1 L2 := by
  obtain ⟨bx, vx, h1, h2⟩ := h.l2
  have hb1 := h.b1
  have hb2 := h.b2
  have k1 : ∀ b, (b = L1 ∨ b ∈ ([] : List Nat)) → B ≤ b ∧ b < w.heap.size := fun b hm => by
    rcases hm with rfl | hm
    · exact ⟨hb1, h.l1.lt⟩
    · cases hm
  have k2 : ∀ b, (b = L2 ∨ b ∈ [bx]) → B ≤ b ∧ b < w.heap.size := fun b hm => by
    rcases hm with rfl | hm
    · exact ⟨hb2, h2.lt⟩
    · simp at hm
      subst hm
      exact ⟨h1, (h2.el 0 b rfl).1⟩
  exact ⟨h.col.step (Nat.le_refl _) hs hc, h.l1.keep hs (fun b o hm => hc b o (k1 b hm).1 (k1 b hm).2) (fun b o hm => hf b o (k1 b hm).1 (k1 b hm).2),
    ⟨bx, vx, h1, h2.keep hs (fun b o hm => hc b o (k2 b hm).1 (k2 b hm).2) (fun b o hm => hf b o (k2 b hm).1 (k2 b hm).2)⟩, hb1, hb2⟩
set_option maxRecDepth 100000 in
set_option maxHeartbeats 1000000 in
theorem c48MT (ks : List Int) (s : ByteArray) (A : Option Addr) (n c g c0 : Nat) (w : World) (hl : n ≤ 120) (h0 : 0 < n) (hlen : n = ks.length) (hkk : ∀ k, k ∈ ks → -9999 ≤ k ∧ k ≤ 9999) (hx : MTRow w g A n c (ks.map fun k => (iN k).cells) s) :
    Calls Tryz.prog 48 #[.slice (some ⟨g, 0, none⟩) 2 c0] w (fun e w' => ∃ (L b b2 : Nat) (A' : Option Addr) (c' L1 L2 B : Nat), e = .returned (.pointer (some ⟨L, 0, none⟩)) ∧ DL w' L [b, b2] [.iface 68 (fM A' n c' L1 L2), .iface 68 (fS s)] ∧ FM w' B ks A' L1 L2 ∧ Below w.heap.size w w') := by
  obtain ⟨hxm, x0, x1, x2, x3⟩ := hx
  obtain ⟨hg, e0, e1, e2, e3, hln, hcol⟩ := hxm
  clear hln
  have H66 : Hid (∀ W, Below w.heap.size w W → Calls Tryz.prog 66 #[.agg #[.int .i64 5, .float .f64 0, .string ⟨#[]⟩, .slice A n c]] W (fun e w' => ∃ (A' : Option Addr) (c' L1 L2 : Nat), e = .returned (fM A' n c' L1 L2) ∧ FM w' W.heap.size ks A' L1 L2 ∧ Below W.heap.size W w')) :=
    Lib.hid fun W hb => c66Mf ks A n c W hl h0 hlen hkk (hcol.below hb)
  clear hcol hkk hlen
  have HX : Hid (w.cell? ⟨g, 4, none⟩ = some (.int .i64 2) ∧ w.cell? ⟨g, 5, none⟩ = some (.float .f64 0) ∧ w.cell? ⟨g, 6, none⟩ = some (.string s) ∧ w.cell? ⟨g, 7, none⟩ = some (.slice none 0 0)) := Lib.hid ⟨x0, x1, x2, x3⟩
  clear x0 x1 x2 x3
  go_enter Tryz.func48, Tryz.ntmps48
  go_wp2_with (go_at_call 64; refine (c64 _).mono ?_; rintro e w1 ⟨rfl, hd1, hb1⟩)
  have HD1 := Lib.hid hd1
  clear hd1
  obtain ⟨hc1, hf1, hz1⟩ := bcell hb1
  have hs1 := hb1.size
  have e0' := (hc1 g 0 hg).trans e0
  have e1' := (hc1 g 1 hg).trans e1
  have e2' := (hc1 g 2 hg).trans e2
  have e3' := (hc1 g 3 hg).trans e3
  have hg1 : g < w1.heap.size := by omega
  clear hc1 hf1 hz1 e0 e1 e2 e3
  refine wp_loop_rounds 3 ?_
  rw [rounds_succ]
  go_wp2_with fail
  have hbA : Below w1.heap.size w1 (w1.alloc (.cells #[.int .i64 5, .float .f64 0, .string ⟨#[]⟩, .slice A n c] 52)) := (by repeat (first | (with_reducible exact Below.refl _ _) | (with_reducible assumption) | ((with_reducible refine Below.alloc ?_ ?_ _); rotate_left; focus (first | exact Nat.le_refl _ | omega | (simp; done) | (simp; omega))) | ((with_reducible refine Below.setCell ?_ ?_ _); rotate_left; focus (first | exact Nat.le_refl _ | omega | (simp; done) | (simp; omega))) | (with_reducible refine Below.drew ?_) | (with_reducible refine below_drewN ?_ _) | ((with_reducible refine below_via (by assumption) ?_ ?_); focus (first | exact Nat.le_refl _ | omega | (simp; done) | (simp; omega)))))
  have hsA : (w1.alloc (.cells #[.int .i64 5, .float .f64 0, .string ⟨#[]⟩, .slice A n c] 52)).heap.size = w1.heap.size + 1 := by simp
  generalize (w1.alloc (.cells #[.int .i64 5, .float .f64 0, .string ⟨#[]⟩, .slice A n c] 52)) = W1 at hbA hsA ⊢
  have hbW1 : Below w.heap.size w W1 := hb1.trans (hbA.mono hs1)
  refine (H66.out W1 hbW1).mono ?_
  rintro e w2 ⟨A', c', L1, L2, rfl, hfm, hb2⟩
  have HFM := Lib.hid hfm
  have hs2 := hb2.size
  have HD2 := Lib.hid ((HD1.out.below hbA).below hb2)
  have hLw : w.heap.size < w1.heap.size := HD1.out.lt
  have hbW2 : Below w.heap.size w w2 := hbW1.trans (hb2.mono (by omega))
  clear hfm e0' e1' e2' e3'
  go_wp2_with fail
  refine (c65 w.heap.size [] [] 68 (fM A' n c' L1 L2) w2 (by simp) HD2.out).mono ?_
  rintro e w3 ⟨rfl, hw3⟩
  have HW3 := Lib.hid hw3
  have HQ3 : Hid (DL w3 w.heap.size [w2.heap.size] [.iface 68 (fM A' n c' L1 L2)]) := Lib.hid (by rw [hw3]; exact HD2.out.push (.iface 68 (fM A' n c' L1 L2)))
  have hb3 : Below w.heap.size w w3 := by rw [hw3]; exact pushed_below hbW2 (Nat.le_refl _) (Nat.le_refl _) (by omega)
  have hs3 : w3.heap.size = w2.heap.size + 1 := by rw [hw3]; exact pushed_size
  clear hw3
  have y0 := (hb3.cell (p := ⟨g, _, none⟩) hg).trans HX.out.1
  have y1 := (hb3.cell (p := ⟨g, _, none⟩) hg).trans HX.out.2.1
  have y2 := (hb3.cell (p := ⟨g, _, none⟩) hg).trans HX.out.2.2.1
  have y3 := (hb3.cell (p := ⟨g, _, none⟩) hg).trans HX.out.2.2.2
  have hg3 : g < w3.heap.size := by omega
  go_wp2_with fail
  rw [rounds_succ]
  go_wp2_with fail
  have hbB : Below w3.heap.size w3 (w3.alloc (.cells #[.int .i64 2, .float .f64 0, .string s, .slice none 0 0] 52)) := (by repeat (first | (with_reducible exact Below.refl _ _) | (with_reducible assumption) | ((with_reducible refine Below.alloc ?_ ?_ _); rotate_left; focus (first | exact Nat.le_refl _ | omega | (simp; done) | (simp; omega))) | ((with_reducible refine Below.setCell ?_ ?_ _); rotate_left; focus (first | exact Nat.le_refl _ | omega | (simp; done) | (simp; omega))) | (with_reducible refine Below.drew ?_) | (with_reducible refine below_drewN ?_ _) | ((with_reducible refine below_via (by assumption) ?_ ?_); focus (first | exact Nat.le_refl _ | omega | (simp; done) | (simp; omega)))))
  generalize (w3.alloc (.cells #[.int .i64 2, .float .f64 0, .string s, .slice none 0 0] 52)) = W4 at hbB ⊢
  refine (c66_2 0 s W4).mono ?_
  rintro e w5 ⟨rfl, hb5'⟩
  have hb5 : Below w3.heap.size w3 w5 := keepS hb5' hbB
  have hs5 := hb5.size
  have HD5 := Lib.hid (HQ3.out.below hb5)
  have hbW5 : Below w.heap.size w w5 := keepS hb5 hb3
  clear hb5' hbB y0 y1 y2 y3
  go_wp2_with fail
  refine (c65 w.heap.size [w2.heap.size] _ 68 (fS s) w5 (by simp) HD5.out).mono ?_
  rintro e w6 ⟨rfl, hw6⟩
  have hb6 : Below w.heap.size w w6 := by rw [hw6]; exact pushed_below hbW5 (Nat.le_refl _) (by show w.heap.size ≤ w2.heap.size; omega) (by omega)
  have HQ6 : Hid (DL w6 w.heap.size [w2.heap.size, w5.heap.size] [.iface 68 (fM A' n c' L1 L2), .iface 68 (fS s)]) := Lib.hid (by rw [hw6]; exact HD5.out.push (.iface 68 (fS s)))
  have HF6 : Hid (FM w6 W1.heap.size ks A' L1 L2) := Lib.hid (by
    refine HFM.out.step (by rw [hw6, pushed_size]; omega) (fun b o h1 h2 => ?_) (fun b o h1 h2 => ?_)
    · have ha : lastOf w.heap.size [w2.heap.size] = w2.heap.size := rfl
      have hn1 : b ≠ w2.heap.size := by omega
      have hn2 : b ≠ w.heap.size := by omega
      rw [hw6, ha, pushed_cell (by omega) (fun e => hn1 e.1) (fun e => hn2 e.1) (fun e => hn2 e.1), hb5.cell (p := ⟨b, o, none⟩) (by show b < _; omega), HW3.out]
      exact pushed_cell h2 (fun e => hn2 e.1) (fun e => hn2 e.1) (fun e => hn2 e.1)
    · rw [hw6, pushed_frozen (by omega), hb5.frozen (p := ⟨b, o, none⟩) (by show b < _; omega), HW3.out, pushed_frozen h2])
  clear hw6
  go_wp2_with fail
  rw [rounds_succ]
  go_wp2_with fail
  go_ret
  exact ⟨_, _, _, A', c', L1, L2, _, rfl, HQ6.out, HF6.out, hb6⟩
end Go.Proofs.YtkhgaenffnoimaaGreatDoor
