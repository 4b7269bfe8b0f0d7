/- all of one table; ask. -/
import Derived.Test.YtkhgaenffnoimaaGreatDoorM4
set_option linter.unusedSimpArgs false
set_option linter.unusedVariables false
namespace Go.Proofs.YtkhgaenffnoimaaGreatDoor
open Go.RowKit
attribute [local go_sem] run_store_float
/-- Block g holds, from its start, a matrix of the implementation: rows at A. -/
structure MRow (w : World) (g : Nat) (A : Option Addr) (n c : Nat) (xs : List (List Value)) : Prop where
  lt : g < w.heap.size
  q0 : w.cell? ⟨g, 0, none⟩ = some (.int .i64 5)
  q1 : w.cell? ⟨g, 1, none⟩ = some (.float .f64 0)
  q2 : w.cell? ⟨g, 2, none⟩ = some (.string ⟨#[]⟩)
  q3 : w.cell? ⟨g, 3, none⟩ = some (.slice A n c)
  len : n = xs.length
  col : Col w A 4 xs
theorem MRow.below {w w1 : World} {g : Nat} {A : Option Addr} {n c : Nat} {xs : List (List Value)} (h : MRow w g A n c xs) (hb : Below w.heap.size w w1) : MRow w1 g A n c xs :=
  ⟨Nat.lt_of_lt_of_le h.lt hb.size, (hb.cell (p := ⟨g, _, none⟩) h.lt).trans h.q0, (hb.cell (p := ⟨g, _, none⟩) h.lt).trans h.q1, (hb.cell (p := ⟨g, _, none⟩) h.lt).trans h.q2, (hb.cell (p := ⟨g, _, none⟩) h.lt).trans h.q3, h.len, h.col.below hb⟩
set_option maxRecDepth 100000 in
set_option maxHeartbeats 1000000 in
theorem c26M (ks : List Int) (A : Option Addr) (c g : Nat) (w : World) (hl : ks.length ≤ 120) (h0 : 0 < ks.length) (hkk : ∀ k, k ∈ ks → -9999 ≤ k ∧ k ≤ 9999) (hx : Col w A 5 (ks.map fun k => (vN k).cells))
    (hg : g < w.heap.size) (e0 : w.cell? ⟨g, 0, none⟩ = some (.int .i64 5)) (e1 : w.cell? ⟨g, 1, none⟩ = some (.int .i64 0)) (e2 : w.cell? ⟨g, 2, none⟩ = some (.int .i64 0)) (e3 : w.cell? ⟨g, 3, none⟩ = some (.string ⟨#[]⟩)) (e4 : w.cell? ⟨g, 4, none⟩ = some (.slice A ks.length c)) :
    Calls Tryz.prog 26 #[.slice (some ⟨g, 0, none⟩) 1 1] w (fun e w' => ∃ (g1 c1 : Nat) (A' : Option Addr) (c' : Nat), e = .returned (.slice (some ⟨g1, 0, none⟩) 1 c1) ∧ MRow w' g1 A' ks.length c' (ks.map fun k => (iN k).cells) ∧ Below w.heap.size w w') := by
  have H44 := Lib.hid (c44M ks A c w hl h0 hkk hx)
  have HN : Hid (ks.length = (ks.map fun k => (iN k).cells).length) := Lib.hid (by rw [List.length_map])
  obtain ⟨n, hn⟩ : ∃ n, n = ks.length := ⟨_, rfl⟩
  rw [← hn] at hl h0 e4 H44 HN ⊢
  clear hn hx hkk
  go_enter Tryz.func26, Tryz.ntmps26
  go_wp2_with fail
  refine wp_loop_rounds 2 ?_
  rw [rounds_succ]
  go_wp2_with (first
    | (go_at_call 44; refine (H44.out).mono ?_; rintro e w1 ⟨A1, c1, rfl, hcol, hb1⟩; have HCO := Lib.hid hcol.col; clear hcol)
    | (at_builtin; refine appOne rfl _ _ 47 27 _ 4 56 rfl under47 info27 rfl (by decide) (by decide) (by decide) [.int .i64 5, .float .f64 0, .string ⟨#[]⟩, .slice A1 n c1] rfl (by first | rfl | (change Value.slice (some ⟨_, 0, none⟩) 1 1 = _; simp [World.setCell])) rfl (by intro u hu; simp only [List.mem_cons, List.not_mem_nil, or_false] at hu; rcases hu with rfl | rfl | rfl | rfl <;> rfl) ?_; intro g1 c1 w3 hg1 hg1l hcc1 hb3))
  have hb13 : Below w.heap.size w w3 := keepS hb3 hb1
  rw [rounds_succ]
  go_wp2_with fail
  go_ret
  exact ⟨g1, _, A1, _, rfl, ⟨hg1l, hcc1 0 _ rfl, hcc1 1 _ rfl, hcc1 2 _ rfl, hcc1 3 _ rfl, HN.out, HCO.out.below hb3⟩, hb13⟩
set_option maxRecDepth 100000 in
set_option maxHeartbeats 1000000 in
/-- ask of one table: the implementation's function F answers the number of the bits b. -/
theorem c8M (F : Nat) (b : Nat) (ks : List Int) (A : Option Addr) (c g : Nat) (w : World) (hl : ks.length ≤ 120) (h0 : 0 < ks.length) (hkk : ∀ k, k ∈ ks → -9999 ≤ k ∧ k ≤ 9999) (hx : Col w A 5 (ks.map fun k => (vN k).cells))
    (hg : g < w.heap.size) (e0 : w.cell? ⟨g, 0, none⟩ = some (.int .i64 5)) (e1 : w.cell? ⟨g, 1, none⟩ = some (.int .i64 0)) (e2 : w.cell? ⟨g, 2, none⟩ = some (.int .i64 0)) (e3 : w.cell? ⟨g, 3, none⟩ = some (.string ⟨#[]⟩)) (e4 : w.cell? ⟨g, 4, none⟩ = some (.slice A ks.length c))
    (hent : ∀ (args : Array Value) (W : World), (callFunc F args).run Tryz.prog W = .ok (.enter F args) W)
    (hF : ∀ W g1 c1 A' c', MRow W g1 A' ks.length c' (ks.map fun k => (iN k).cells) → Calls Tryz.prog F #[.slice (some ⟨g1, 0, none⟩) 1 c1] W (Ret W (.agg #[.int .i64 1, .float .f64 b, .string ⟨#[]⟩, .slice none 0 0]))) :
    Calls Tryz.prog 8 #[.func (.func F) #[] #[], .slice (some ⟨g, 0, none⟩) 1 1] w (Ret w (.agg #[.int .i64 1, .float .f64 b, .string ⟨#[]⟩, .slice none 0 0])) := by
  have H26 : Hid (∀ W, Below w.heap.size w W → Calls Tryz.prog 26 #[.slice (some ⟨g, 0, none⟩) 1 1] W (fun e w' => ∃ (g1 c1 : Nat) (A' : Option Addr) (c' : Nat), e = .returned (.slice (some ⟨g1, 0, none⟩) 1 c1) ∧ MRow w' g1 A' ks.length c' (ks.map fun k => (iN k).cells) ∧ Below W.heap.size W w')) :=
    Lib.hid fun W hb => c26M ks A c g W hl h0 hkk (hx.below hb) (Nat.lt_of_lt_of_le hg hb.size) ((hb.cell (p := ⟨g, _, none⟩) hg).trans e0) ((hb.cell (p := ⟨g, _, none⟩) hg).trans e1) ((hb.cell (p := ⟨g, _, none⟩) hg).trans e2) ((hb.cell (p := ⟨g, _, none⟩) hg).trans e3) ((hb.cell (p := ⟨g, _, none⟩) hg).trans e4)
  have HF := Lib.hid hF
  clear hF hkk hx e0 e1 e2 e3 e4 h0 hl hg
  obtain ⟨n, hn⟩ : ∃ n, n = ks.length := ⟨_, rfl⟩
  rw [← hn] at H26 HF
  clear hn
  go_enter Tryz.func8, Tryz.ntmps8
  go_wp2_with fail
  have hMZ : Hid (MCell (w.alloc (.cells #[.int .i64 0, .float .f64 0, .string ⟨#[]⟩, .slice none 0 0] 27)) w.heap.size 0 (.slice none 0 0)) := Lib.hid ⟨by simp, by simp [go_sem], by simp [go_sem], by simp [go_sem], by simp [go_sem], fun o => by simp [go_sem]⟩
  have hbA : Below w.heap.size w (w.alloc (.cells #[.int .i64 0, .float .f64 0, .string ⟨#[]⟩, .slice none 0 0] 27)) := (by repeat (first | (with_reducible exact Below.refl _ _) | (with_reducible assumption) | ((with_reducible refine Below.alloc ?_ ?_ _); rotate_left; focus (first | exact Nat.le_refl _ | omega | (simp; done) | (simp; omega))) | ((with_reducible refine Below.setCell ?_ ?_ _); rotate_left; focus (first | exact Nat.le_refl _ | omega | (simp; done) | (simp; omega))) | (with_reducible refine Below.drew ?_) | (with_reducible refine below_drewN ?_ _) | ((with_reducible refine below_via (by assumption) ?_ ?_); focus (first | exact Nat.le_refl _ | omega | (simp; done) | (simp; omega)))))
  have hsA : (w.alloc (.cells #[.int .i64 0, .float .f64 0, .string ⟨#[]⟩, .slice none 0 0] 27)).heap.size = w.heap.size + 1 := by simp
  generalize (w.alloc (.cells #[.int .i64 0, .float .f64 0, .string ⟨#[]⟩, .slice none 0 0] 27)) = W1 at hMZ hbA hsA ⊢
  refine (H26.out _ hbA).mono ?_
  rintro e w1 ⟨g1, c1, A1, c2, rfl, hm, hb1⟩
  have HM := Lib.hid hm
  clear hm
  go_wp2_with fail
  refine (HF.out w1 g1 c1 A1 c2 HM.out).mono ?_
  rintro e w2 ⟨rfl, hb2⟩
  obtain ⟨hzl, z0, z1, z2, z3, zf⟩ := (hMZ.out.below hMZ.out.lt hb1).below (Nat.lt_of_lt_of_le hMZ.out.lt hb1.size) hb2
  have hbf : Below w.heap.size w w2 := (hbA.trans (hb1.mono (by omega))).trans (hb2.mono (by have := hb1.size; omega))
  go_wp2_with fail
  (refine bodyPost_ret (v := .agg #[.int .i64 1, .float .f64 b, .string ⟨#[]⟩, .slice none 0 0]) ?_ rfl ?_; (focus (first | (simp [results, Tryz.results8, go_sem, hc1, hz1]; done) | (simp [results, Tryz.results8, go_sem]; done) | (simp [results, Tryz.results8, go_sem, *]; done))); exact ret_mk (by repeat (first | (with_reducible exact Below.refl _ _) | (with_reducible assumption) | ((with_reducible refine Below.alloc ?_ ?_ _); rotate_left; focus (first | exact Nat.le_refl _ | omega | (simp; done) | (simp; omega))) | ((with_reducible refine Below.setCell ?_ ?_ _); rotate_left; focus (first | exact Nat.le_refl _ | omega | (simp; done) | (simp; omega))) | (with_reducible refine Below.drew ?_) | (with_reducible refine below_drewN ?_ _) | ((with_reducible refine below_via (by assumption) ?_ ?_); focus (first | exact Nat.le_refl _ | omega | (simp; done) | (simp; omega))))))
end Go.Proofs.YtkhgaenffnoimaaGreatDoor
