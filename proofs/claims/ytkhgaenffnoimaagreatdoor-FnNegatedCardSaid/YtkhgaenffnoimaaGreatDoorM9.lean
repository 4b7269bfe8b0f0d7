/- innerList of one matrix; countSum. -/
import Derived.Test.YtkhgaenffnoimaaGreatDoorM8
set_option linter.unusedSimpArgs false
set_option linter.unusedVariables false
namespace Go.Proofs.YtkhgaenffnoimaaGreatDoor
open Go.RowKit
attribute [local go_sem] run_store_float as64
theorem FM.pushed {w : World} {B : Nat} {ks : List Int} {A : Option Addr} {L1 L2 L : Nat} {v : Value} (h : FM w B ks A L1 L2) (hL : L < B) (hd : DL w L [] []) : FM (pushed w L (lastOf L []) ([] : List Nat).length v) B ks A L1 L2 := by
  obtain ⟨bx, vx, h1, h2⟩ := h.l2
  have hb1 := h.b1
  have hb2 := h.b2
  refine ⟨h.col.step (Nat.le_refl _) (by rw [pushed_size]; exact Nat.le_succ _) (fun b o h3 h4 => ?_), h.l1.keep (by rw [pushed_size]; exact Nat.le_succ _) (fun b o hm => ?_) (fun b o hm => ?_), ⟨bx, vx, h1, h2.keep (by rw [pushed_size]; exact Nat.le_succ _) (fun b o hm => ?_) (fun b o hm => ?_)⟩, h.b1, h.b2⟩
  · have hne : b ≠ L := by omega
    exact pushed_cell h4 (fun e => hne e.1) (fun e => hne e.1) (fun e => hne e.1)
  · rcases hm with rfl | hm
    · have hne : b ≠ L := by omega
      exact pushed_cell h.l1.lt (fun e => hne e.1) (fun e => hne e.1) (fun e => hne e.1)
    · cases hm
  · rcases hm with rfl | hm
    · exact pushed_frozen h.l1.lt
    · cases hm
  · have hlt : b < w.heap.size := by
      rcases hm with rfl | hm
      · exact h2.lt
      · simp at hm
        subst hm
        exact (h2.el 0 b rfl).1
    have hne : b ≠ L := by
      rcases hm with rfl | hm
      · omega
      · simp at hm
        omega
    exact pushed_cell hlt (fun e => hne e.1) (fun e => hne e.1) (fun e => hne e.1)
  · have hlt : b < w.heap.size := by
      rcases hm with rfl | hm
      · exact h2.lt
      · simp at hm
        subst hm
        exact (h2.el 0 b rfl).1
    exact pushed_frozen hlt
set_option maxRecDepth 100000 in
set_option maxHeartbeats 1000000 in
theorem c48M (ks : List Int) (A : Option Addr) (n c g c0 : Nat) (w : World) (hl : n ≤ 120) (h0 : 0 < n) (hlen : n = ks.length) (hkk : ∀ k, k ∈ ks → -9999 ≤ k ∧ k ≤ 9999) (hx : MRow w g A n c (ks.map fun k => (iN k).cells)) :
    Calls Tryz.prog 48 #[.slice (some ⟨g, 0, none⟩) 1 c0] w (fun e w' => ∃ (L b : Nat) (A' : Option Addr) (c' L1 L2 B : Nat), e = .returned (.pointer (some ⟨L, 0, none⟩)) ∧ DL w' L [b] [.iface 68 (fM A' n c' L1 L2)] ∧ FM w' B ks A' L1 L2 ∧ Below w.heap.size w w') := by
  obtain ⟨hg, e0, e1, e2, e3, hln, hcol⟩ := hx
  clear hln
  have H66 : Hid (∀ W, Below w.heap.size w W → Calls Tryz.prog 66 #[.agg #[.int .i64 5, .float .f64 0, .string ⟨#[]⟩, .slice A n c]] W (fun e w' => ∃ (A' : Option Addr) (c' L1 L2 : Nat), e = .returned (fM A' n c' L1 L2) ∧ FM w' W.heap.size ks A' L1 L2 ∧ Below W.heap.size W w')) :=
    Lib.hid fun W hb => c66Mf ks A n c W hl h0 hlen hkk (hcol.below hb)
  clear hcol hkk hlen
  go_enter Tryz.func48, Tryz.ntmps48
  go_wp2_with (go_at_call 64; refine (c64 _).mono ?_; rintro e w1 ⟨rfl, hd1, hb1⟩)
  have HD1 := Lib.hid hd1
  clear hd1
  obtain ⟨hc1, hf1, hz1⟩ := bcell hb1
  have hs1 := hb1.size
  have e0' := (hc1 g 0 hg).trans e0
  have e1' := (hc1 g 1 hg).trans e1
  have e2' := (hc1 g 2 hg).trans e2
  have e3' := (hc1 g 3 hg).trans e3
  have hg1 : g < w1.heap.size := by omega
  clear hc1 hf1 hz1 e0 e1 e2 e3
  refine wp_loop_rounds 2 ?_
  rw [rounds_succ]
  go_wp2_with fail
  have hbA : Below w1.heap.size w1 (w1.alloc (.cells #[.int .i64 5, .float .f64 0, .string ⟨#[]⟩, .slice A n c] 52)) := (by repeat (first | (with_reducible exact Below.refl _ _) | (with_reducible assumption) | ((with_reducible refine Below.alloc ?_ ?_ _); rotate_left; focus (first | exact Nat.le_refl _ | omega | (simp; done) | (simp; omega))) | ((with_reducible refine Below.setCell ?_ ?_ _); rotate_left; focus (first | exact Nat.le_refl _ | omega | (simp; done) | (simp; omega))) | (with_reducible refine Below.drew ?_) | (with_reducible refine below_drewN ?_ _) | ((with_reducible refine below_via (by assumption) ?_ ?_); focus (first | exact Nat.le_refl _ | omega | (simp; done) | (simp; omega)))))
  have hsA : (w1.alloc (.cells #[.int .i64 5, .float .f64 0, .string ⟨#[]⟩, .slice A n c] 52)).heap.size = w1.heap.size + 1 := by simp
  generalize (w1.alloc (.cells #[.int .i64 5, .float .f64 0, .string ⟨#[]⟩, .slice A n c] 52)) = W1 at hbA hsA ⊢
  have hbW1 : Below w.heap.size w W1 := hb1.trans (hbA.mono hs1)
  refine (H66.out W1 hbW1).mono ?_
  rintro e w2 ⟨A', c', L1, L2, rfl, hfm, hb2⟩
  have HFM := Lib.hid hfm
  have hs2 := hb2.size
  have HD2 := Lib.hid ((HD1.out.below hbA).below hb2)
  have hLw : w.heap.size < w1.heap.size := HD1.out.lt
  have hbW2 : Below w.heap.size w w2 := hbW1.trans (hb2.mono (by omega))
  clear hfm
  go_wp2_with fail
  refine (c65 w.heap.size [] [] 68 (fM A' n c' L1 L2) w2 (by simp) HD2.out).mono ?_
  rintro e w3 ⟨rfl, hw3⟩
  have HP := Lib.hid (HFM.out.pushed (L := w.heap.size) (v := .iface 68 (fM A' n c' L1 L2)) (by omega) HD2.out)
  have HQ := Lib.hid (HD2.out.push (.iface 68 (fM A' n c' L1 L2)))
  have hb3 : Below w.heap.size w w3 := by rw [hw3]; exact pushed_below hbW2 (Nat.le_refl _) (Nat.le_refl _) (by omega)
  have HP3 : Hid (FM w3 W1.heap.size ks A' L1 L2) := Lib.hid (by rw [hw3]; exact HP.out)
  have HQ3 : Hid (DL w3 w.heap.size [w2.heap.size] [.iface 68 (fM A' n c' L1 L2)]) := Lib.hid (by rw [hw3]; exact HQ.out)
  clear hw3 HP HQ
  go_wp2_with fail
  rw [rounds_succ]
  go_wp2_with fail
  go_ret
  exact ⟨_, _, A', c', L1, L2, _, rfl, HQ3.out, HP3.out, hb3⟩
end Go.Proofs.YtkhgaenffnoimaaGreatDoor
