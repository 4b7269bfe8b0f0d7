/- in: a matrix as an argument of the implementation. -/
import Derived.Test.YtkhgaenffnoimaaGreatDoorM5
set_option linter.unusedSimpArgs false
set_option linter.unusedVariables false
namespace Go.Proofs.YtkhgaenffnoimaaGreatDoor
open Go.RowKit
attribute [local go_sem] run_store_float
set_option maxRecDepth 100000 in
set_option maxHeartbeats 1000000 in
theorem c29n (k : Int) (A : Option Addr) (c : Nat) (w : World) (hx : CRow w A 4 [(iN k).cells]) :
    Calls Tryz.prog 29 #[.slice A 1 c] w (One w (iN k).cells) := by
  rcases hx with h | ⟨g, rfl, hg, hc⟩
  · cases h
  have e0 := hc 0 _ rfl 0 _ rfl
  have e1 := hc 0 _ rfl 1 _ rfl
  have e2 := hc 0 _ rfl 2 _ rfl
  have e3 := hc 0 _ rfl 3 _ rfl
  clear hc
  simp only [iN, Nat.zero_mul, Nat.zero_add] at e0 e1 e2 e3
  go_enter Tryz.func29, Tryz.ntmps29
  go_wp2_with fail
  refine wp_loop_rounds 2 ?_
  rw [rounds_succ]
  go_wp2_with fail
  refine wp_loop_rounds 1 ?_
  rw [rounds_succ]
  go_wp2_with (at_builtin; refine app47n 54 52 under54 info52 (iN k) _ _ rfl rfl rfl (by first | rfl | (change Value.slice (some ⟨_, 0, none⟩) 1 1 = _; simp [World.setCell])) ?_; intro g1 c1 w3 hg1 hg1l hcc1 hb3)
  have hg1' : w.heap.size ≤ g1 := by
    simp at hg1
    omega
  have hb13 : Below w.heap.size w w3 := keepS hb3 (by repeat (first | (with_reducible exact Below.refl _ _) | (with_reducible assumption) | ((with_reducible refine Below.alloc ?_ ?_ _); rotate_left; focus (first | exact Nat.le_refl _ | omega | (simp; done) | (simp; omega))) | ((with_reducible refine Below.setCell ?_ ?_ _); rotate_left; focus (first | exact Nat.le_refl _ | omega | (simp; done) | (simp; omega))) | (with_reducible refine Below.drew ?_) | (with_reducible refine below_drewN ?_ _) | ((with_reducible refine below_via (by assumption) ?_ ?_); focus (first | exact Nat.le_refl _ | omega | (simp; done) | (simp; omega)))))
  rw [rounds_succ]
  go_wp2_with fail
  go_ret
  exact ⟨g1, c1, rfl, hg1', hg1l, hcc1, hb13⟩
set_option maxRecDepth 100000 in
set_option maxHeartbeats 1000000 in
theorem c29M (ks : List Int) (A : Option Addr) (n c g c0 : Nat) (w : World) (hl : n ≤ 120) (h0 : 0 < n) (hx : MRow w g A n c (ks.map fun k => (iN k).cells)) :
    Calls Tryz.prog 29 #[.slice (some ⟨g, 0, none⟩) 1 c0] w (fun e w' => ∃ (g1 c1 : Nat) (A' : Option Addr) (c' : Nat), e = .returned (.slice (some ⟨g1, 0, none⟩) 1 c1) ∧ MRow w' g1 A' n c' (ks.map fun k => (iN k).cells) ∧ Below w.heap.size w w') := by
  obtain ⟨hg0, e0, e1, e2, e3, hlen, rs, hrl, hro, hre⟩ := hx
  rw [List.length_map] at hrl hlen
  rcases hro with h | ⟨g', rfl, hg, hc⟩
  · rw [List.map_eq_nil_iff.1 h] at hrl
    simp at hrl
    omega
  have HC : Hid (∀ (j : Nat) (r : Option Addr × Nat), rs[j]? = some r → w.cell? ⟨g', j, none⟩ = some (.slice r.1 1 r.2)) := Lib.hid fun j r hj => by
    have := hc j _ (by rw [List.getElem?_map, hj]; rfl) 0 _ rfl
    simpa using this
  have HE := Lib.hid hre
  have HR : Hid (rs.length = n) := Lib.hid (by omega)
  have HN := Lib.hid hlen
  clear hc hre hrl hlen
  go_enter Tryz.func29, Tryz.ntmps29
  go_wp2_with fail
  refine wp_loop_rounds 2 ?_
  rw [rounds_succ]
  go_wp2_with fail
  have hMC : Hid (MCell ((w.alloc (.cells #[.int .i64 5, .float .f64 0, .string ⟨#[]⟩, .slice (some ⟨g', 0, none⟩) n c] 27)).alloc (.cells #[.int .i64 5, .float .f64 0, .string ⟨#[]⟩, .slice none 0 0] 52)) (w.heap.size + 1) 5 (.slice none 0 0)) := Lib.hid ⟨by simp, by simp [go_sem], by simp [go_sem], by simp [go_sem], by simp [go_sem], fun o => by simp [go_sem]⟩
  have hbA : Below w.heap.size w ((w.alloc (.cells #[.int .i64 5, .float .f64 0, .string ⟨#[]⟩, .slice (some ⟨g', 0, none⟩) n c] 27)).alloc (.cells #[.int .i64 5, .float .f64 0, .string ⟨#[]⟩, .slice none 0 0] 52)) := (by repeat (first | (with_reducible exact Below.refl _ _) | (with_reducible assumption) | ((with_reducible refine Below.alloc ?_ ?_ _); rotate_left; focus (first | exact Nat.le_refl _ | omega | (simp; done) | (simp; omega))) | ((with_reducible refine Below.setCell ?_ ?_ _); rotate_left; focus (first | exact Nat.le_refl _ | omega | (simp; done) | (simp; omega))) | (with_reducible refine Below.drew ?_) | (with_reducible refine below_drewN ?_ _) | ((with_reducible refine below_via (by assumption) ?_ ?_); focus (first | exact Nat.le_refl _ | omega | (simp; done) | (simp; omega)))))
  have hsA : ((w.alloc (.cells #[.int .i64 5, .float .f64 0, .string ⟨#[]⟩, .slice (some ⟨g', 0, none⟩) n c] 27)).alloc (.cells #[.int .i64 5, .float .f64 0, .string ⟨#[]⟩, .slice none 0 0] 52)).heap.size = w.heap.size + 2 := by simp
  generalize ((w.alloc (.cells #[.int .i64 5, .float .f64 0, .string ⟨#[]⟩, .slice (some ⟨g', 0, none⟩) n c] 27)).alloc (.cells #[.int .i64 5, .float .f64 0, .string ⟨#[]⟩, .slice none 0 0] 52)) = W1 at hMC hbA hsA ⊢
  clear e0 e1 e2 e3
  go_loopw [25] (fun i wr => ∃ (q : Nat) (v : Value), q ≤ n ∧ i = .int .i64 q ∧ Below (w.heap.size + 1) W1 wr ∧ MCell wr (w.heap.size + 1) 5 v ∧ CBB (w.heap.size + 2) wr 54 v ((ks.take q).map fun k => (iN k).cells)) (fun i _ => n - (intOf i).toNat)
  case atStart => exact ⟨0, _, Nat.zero_le _, rfl, Below.refl _ _, hMC.out, cbb_nil _ _ _⟩
  case round =>
    obtain ⟨q, v, hq, rfl, hb, hm, hcb⟩ := hrel
    have HM := Lib.hid hm
    have HCB := Lib.hid hcb
    obtain ⟨hml, m0, m1, m2, m3, mf⟩ := hm
    clear hcb
    have hwr := hb.size
    by_cases hlt : q < n
    · obtain ⟨k, hkq⟩ : ∃ k, ks[q]? = some k := ⟨_, List.getElem?_eq_getElem (by rw [← HN.out]; exact hlt)⟩
      obtain ⟨r, hrq⟩ : ∃ r, rs[q]? = some r := ⟨_, List.getElem?_eq_getElem (by rw [HR.out]; exact hlt)⟩
      have hbw : Below w.heap.size w wr := hbA.trans (hb.mono (by omega))
      have e0 := (hbw.cell (p := ⟨g', q, none⟩) hg).trans (HC.out q r hrq)
      have HE1 := Lib.hid ((HE.out q r (iN k).cells hrq (by rw [List.getElem?_map, hkq]; rfl)).below (Below.drew hbw))
      have hgr : g' < wr.heap.size := by omega
      have HKQ := Lib.hid hkq
      clear hkq hrq
      have hrd : wr.drew.heap.size = wr.heap.size := rfl
      go_wp2_with fail
      go_region_law (first | (refine step_run rfl _ _ _ rfl (.slice A4 n4 c4) w4 hap ?_) | (refine step_call rfl 29 _ _ rfl (.slice r.1 1 r.2) rfl (by simp [go_sem]) ?_; refine (c29n k r.1 r.2 wr.drew HE1.out).mono ?_; rintro e w2 ⟨g1, c1, rfl, hg1, hg1l, hcc1, hb2'⟩; have hb2 : Below wr.heap.size wr w2 := below_then (Below.drew (Below.refl _ _)) (Nat.le_refl _) hb2'; have hs2 := hb2.size; have HM2 := Lib.hid (HM.out.below hml hb2); obtain ⟨hml2, x0, x1, x2, x3, xf⟩ := HM.out.below hml hb2; clear hb2'; obtain ⟨v4, w4, hap, hcb4, hb4, hz4⟩ := runRowB (w.heap.size + 2) (by omega) 50 50 54 under50 info54 v (List.map (fun k => (iN k).cells) (List.take q ks)) (iN k).cells g1 c1 (HCB.out.below hb2) (by rw [List.length_map, List.length_take]; omega) (by omega) hg1l (HCB.out.ne (by omega)) hcc1; obtain ⟨A4, n4, c4, hv4⟩ := hcb4.slice; subst hv4; have HCB4 := Lib.hid hcb4; have HM4 := Lib.hid (HM2.out.below (by omega) hb4); obtain ⟨hml4, y0, y1, y2, y3, yf⟩ := HM2.out.below (by omega) hb4; clear hcb4; refine ⟨_, rfl, ?_⟩))
      all_goals go_wp2_with fail
      all_goals
        have hbf : Below (w.heap.size + 1) W1 w4 := (hb.trans (hb2.mono (by omega))).trans (hb4.mono (by omega))
        have hm4 : MCell (w4.setCell ⟨w.heap.size + 1, 3, none⟩ (.slice A4 n4 c4)) (w.heap.size + 1) 5 (.slice A4 n4 c4) :=
          ⟨by simpa using hml4, by simp [go_sem, y0], by simp [go_sem, y1], by simp [go_sem, y2], by simp [go_sem, y3, World.cell?_setCell_same], fun o => by simp [go_sem, yf]⟩
        refine ⟨⟨q + 1, _, by omega, by simp, hbf.setCell (Nat.le_refl _) _, hm4, ?_⟩, by simp only [intOf]; omega⟩
        rw [take_succ_of HKQ.out, List.map_append]
        exact HCB4.out.same (by simp) fun j hj _ => Below.heap_setCell _ _ _ _ (by show j ≠ w.heap.size + 1; omega)
    · have hqn : q = n := by omega
      subst hqn
      have htk : List.take q ks = ks := by rw [HN.out, List.take_length]
      obtain ⟨A', c', rfl, hcol⟩ := HCB.out.col 4
      rw [htk] at hcol
      have hln : (List.map (fun k => (iN k).cells) (List.take q ks)).length = q := by rw [List.length_map, List.length_take]; have := HN.out; omega
      rw [hln] at m3
      clear hln
      have HCO := Lib.hid hcol.col
      clear hcol
      have hbf : Below w.heap.size w wr := hbA.trans (hb.mono (by omega))
      go_wp2_with (at_builtin; refine appOne rfl _ _ 54 52 _ 4 56 rfl under54 info52 rfl (by decide) (by decide) (by decide) [.int .i64 5, .float .f64 0, .string ⟨#[]⟩, .slice A' q c'] rfl (by first | rfl | (change Value.slice (some ⟨_, 0, none⟩) 1 1 = _; simp [World.setCell])) rfl (by intro u hu; simp only [List.mem_cons, List.not_mem_nil, or_false] at hu; rcases hu with rfl | rfl | rfl | rfl <;> rfl) ?_; intro g1 c1 w3 hg1 hg1l hcc1 hb3)
      rw [rounds_succ]
      go_wp2_with fail
      go_ret
      exact ⟨g1, _, A', c', rfl, ⟨hg1l, hcc1 0 _ rfl, hcc1 1 _ rfl, hcc1 2 _ rfl, hcc1 3 _ rfl, by rw [List.length_map]; exact HN.out, HCO.out.below hb3⟩, keepS hb3 hbf⟩
end Go.Proofs.YtkhgaenffnoimaaGreatDoor
