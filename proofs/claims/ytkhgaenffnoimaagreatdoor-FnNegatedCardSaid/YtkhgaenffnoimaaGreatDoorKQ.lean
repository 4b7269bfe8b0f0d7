/- in: a matrix and a text as arguments of the implementation. -/
import Derived.Test.YtkhgaenffnoimaaGreatDoorKO
set_option linter.unusedSimpArgs false
set_option linter.unusedVariables false
namespace Go.Proofs.YtkhgaenffnoimaaGreatDoor
open Go.RowKit
attribute [local go_sem] run_store_float
set_option maxRecDepth 100000 in
set_option maxHeartbeats 1000000 in
theorem c29MT (ks : List Int) (s : ByteArray) (A : Option Addr) (n c g c0 : Nat) (w : World) (hl : n ≤ 120) (h0 : 0 < n) (hx : MTRow w g A n c (ks.map fun k => (iN k).cells) s) :
    Calls Tryz.prog 29 #[.slice (some ⟨g, 0, none⟩) 2 c0] w (fun e w' => ∃ (g1 c1 : Nat) (A' : Option Addr) (c' : Nat), e = .returned (.slice (some ⟨g1, 0, none⟩) 2 c1) ∧ MTRow w' g1 A' n c' (ks.map fun k => (iN k).cells) s ∧ Below w.heap.size w w') := by
  obtain ⟨hxm, x0, x1, x2, x3⟩ := hx
  obtain ⟨hg0, e0, e1, e2, e3, hlen, rs, hrl, hro, hre⟩ := hxm
  rw [List.length_map] at hrl hlen
  rcases hro with h | ⟨g', rfl, hg, hc⟩
  · rw [List.map_eq_nil_iff.1 h] at hrl
    simp at hrl
    omega
  have HC : Hid (∀ (j : Nat) (r : Option Addr × Nat), rs[j]? = some r → w.cell? ⟨g', j, none⟩ = some (.slice r.1 1 r.2)) := Lib.hid fun j r hj => by
    have := hc j _ (by rw [List.getElem?_map, hj]; rfl) 0 _ rfl
    simpa using this
  have HE := Lib.hid hre
  have HR : Hid (rs.length = n) := Lib.hid (by omega)
  have HN := Lib.hid hlen
  clear hc hre hrl hlen
  go_enter Tryz.func29, Tryz.ntmps29
  go_wp2_with fail
  refine wp_loop_rounds 3 ?_
  rw [rounds_succ]
  go_wp2_with fail
  have hMC : Hid (MCell ((w.alloc (.cells #[.int .i64 5, .float .f64 0, .string ⟨#[]⟩, .slice (some ⟨g', 0, none⟩) n c] 27)).alloc (.cells #[.int .i64 5, .float .f64 0, .string ⟨#[]⟩, .slice none 0 0] 52)) (w.heap.size + 1) 5 (.slice none 0 0)) := Lib.hid ⟨by simp, by simp [go_sem], by simp [go_sem], by simp [go_sem], by simp [go_sem], fun o => by simp [go_sem]⟩
  have hbA : Below w.heap.size w ((w.alloc (.cells #[.int .i64 5, .float .f64 0, .string ⟨#[]⟩, .slice (some ⟨g', 0, none⟩) n c] 27)).alloc (.cells #[.int .i64 5, .float .f64 0, .string ⟨#[]⟩, .slice none 0 0] 52)) := (by repeat (first | (with_reducible exact Below.refl _ _) | (with_reducible assumption) | ((with_reducible refine Below.alloc ?_ ?_ _); rotate_left; focus (first | exact Nat.le_refl _ | omega | (simp; done) | (simp; omega))) | ((with_reducible refine Below.setCell ?_ ?_ _); rotate_left; focus (first | exact Nat.le_refl _ | omega | (simp; done) | (simp; omega))) | (with_reducible refine Below.drew ?_) | (with_reducible refine below_drewN ?_ _) | ((with_reducible refine below_via (by assumption) ?_ ?_); focus (first | exact Nat.le_refl _ | omega | (simp; done) | (simp; omega)))))
  have hsA : ((w.alloc (.cells #[.int .i64 5, .float .f64 0, .string ⟨#[]⟩, .slice (some ⟨g', 0, none⟩) n c] 27)).alloc (.cells #[.int .i64 5, .float .f64 0, .string ⟨#[]⟩, .slice none 0 0] 52)).heap.size = w.heap.size + 2 := by simp
  generalize ((w.alloc (.cells #[.int .i64 5, .float .f64 0, .string ⟨#[]⟩, .slice (some ⟨g', 0, none⟩) n c] 27)).alloc (.cells #[.int .i64 5, .float .f64 0, .string ⟨#[]⟩, .slice none 0 0] 52)) = W1 at hMC hbA hsA ⊢
  clear e0 e1 e2 e3
  go_loopw [25] (fun i wr => ∃ (q : Nat) (v : Value), q ≤ n ∧ i = .int .i64 q ∧ Below (w.heap.size + 1) W1 wr ∧ MCell wr (w.heap.size + 1) 5 v ∧ CBB (w.heap.size + 2) wr 54 v ((ks.take q).map fun k => (iN k).cells)) (fun i _ => n - (intOf i).toNat)
  case atStart => exact ⟨0, _, Nat.zero_le _, rfl, Below.refl _ _, hMC.out, cbb_nil _ _ _⟩
  case round =>
    obtain ⟨q, v, hq, rfl, hb, hm, hcb⟩ := hrel
    have HM := Lib.hid hm
    have HCB := Lib.hid hcb
    obtain ⟨hml, m0, m1, m2, m3, mf⟩ := hm
    clear hcb
    have hwr := hb.size
    by_cases hlt : q < n
    · obtain ⟨k, hkq⟩ : ∃ k, ks[q]? = some k := ⟨_, List.getElem?_eq_getElem (by rw [← HN.out]; exact hlt)⟩
      obtain ⟨r, hrq⟩ : ∃ r, rs[q]? = some r := ⟨_, List.getElem?_eq_getElem (by rw [HR.out]; exact hlt)⟩
      have hbw : Below w.heap.size w wr := hbA.trans (hb.mono (by omega))
      have e0 := (hbw.cell (p := ⟨g', q, none⟩) hg).trans (HC.out q r hrq)
      have HE1 := Lib.hid ((HE.out q r (iN k).cells hrq (by rw [List.getElem?_map, hkq]; rfl)).below (Below.drew hbw))
      have hgr : g' < wr.heap.size := by omega
      have HKQ := Lib.hid hkq
      clear hkq hrq x0 x1 x2 x3
      have hrd : wr.drew.heap.size = wr.heap.size := rfl
      go_wp2_with fail
      go_region_law (first | (refine step_run rfl _ _ _ rfl (.slice A4 n4 c4) w4 hap ?_) | (refine step_call rfl 29 _ _ rfl (.slice r.1 1 r.2) rfl (by simp [go_sem]) ?_; refine (c29n k r.1 r.2 wr.drew HE1.out).mono ?_; rintro e w2 ⟨g1, c1, rfl, hg1, hg1l, hcc1, hb2'⟩; have hb2 : Below wr.heap.size wr w2 := below_then (Below.drew (Below.refl _ _)) (Nat.le_refl _) hb2'; have hs2 := hb2.size; have HM2 := Lib.hid (HM.out.below hml hb2); obtain ⟨hml2, x0, x1, x2, x3, xf⟩ := HM.out.below hml hb2; clear hb2'; obtain ⟨v4, w4, hap, hcb4, hb4, hz4⟩ := runRowB (w.heap.size + 2) (by omega) 50 50 54 under50 info54 v (List.map (fun k => (iN k).cells) (List.take q ks)) (iN k).cells g1 c1 (HCB.out.below hb2) (by rw [List.length_map, List.length_take]; omega) (by omega) hg1l (HCB.out.ne (by omega)) hcc1; obtain ⟨A4, n4, c4, hv4⟩ := hcb4.slice; subst hv4; have HCB4 := Lib.hid hcb4; have HM4 := Lib.hid (HM2.out.below (by omega) hb4); obtain ⟨hml4, y0, y1, y2, y3, yf⟩ := HM2.out.below (by omega) hb4; clear hcb4; refine ⟨_, rfl, ?_⟩))
      all_goals go_wp2_with fail
      all_goals
        have hbf : Below (w.heap.size + 1) W1 w4 := (hb.trans (hb2.mono (by omega))).trans (hb4.mono (by omega))
        have hm4 : MCell (w4.setCell ⟨w.heap.size + 1, 3, none⟩ (.slice A4 n4 c4)) (w.heap.size + 1) 5 (.slice A4 n4 c4) :=
          ⟨by simpa using hml4, by simp [go_sem, y0], by simp [go_sem, y1], by simp [go_sem, y2], by simp [go_sem, y3, World.cell?_setCell_same], fun o => by simp [go_sem, yf]⟩
        refine ⟨⟨q + 1, _, by omega, by simp, hbf.setCell (Nat.le_refl _) _, hm4, ?_⟩, by simp only [intOf]; omega⟩
        rw [take_succ_of HKQ.out, List.map_append]
        exact HCB4.out.same (by simp) fun j hj _ => Below.heap_setCell _ _ _ _ (by show j ≠ w.heap.size + 1; omega)
    · have hqn : q = n := by omega
      subst hqn
      have htk : List.take q ks = ks := by rw [HN.out, List.take_length]
      obtain ⟨A', c', rfl, hcol⟩ := HCB.out.col 4
      rw [htk] at hcol
      have hln : (List.map (fun k => (iN k).cells) (List.take q ks)).length = q := by rw [List.length_map, List.length_take]; have := HN.out; omega
      rw [hln] at m3
      clear hln
      have HCO := Lib.hid hcol.col
      clear hcol
      have hbf : Below w.heap.size w wr := hbA.trans (hb.mono (by omega))
      go_wp2_with (at_builtin; refine appB wr.heap.size (Nat.le_refl _) rfl _ _ 54 52 _ 4 56 rfl under54 info52 rfl (by decide) (by decide) _ [] [.int .i64 5, .float .f64 0, .string ⟨#[]⟩, .slice A' q c'] rfl (by first | rfl | (change Value.slice (some ⟨_, 0, none⟩) 1 1 = _; simp [World.setCell])) rfl (oneC _ _ _ _ rfl rfl rfl rfl) (ownB_nil _ _ _ _) (by decide) ?_; intro v1 w3 ho1 hb3 hk3 hz3)
      have hb13 : Below w.heap.size w w3 := keepS hb3 hbf
      have HO1 := Lib.hid ho1
      have d0 := (hb13.cell (p := ⟨g, 4, none⟩) hg0).trans x0
      have d1 := (hb13.cell (p := ⟨g, 5, none⟩) hg0).trans x1
      have d2 := (hb13.cell (p := ⟨g, 6, none⟩) hg0).trans x2
      have d3 := (hb13.cell (p := ⟨g, 7, none⟩) hg0).trans x3
      have hg3 : g < w3.heap.size := Nat.lt_of_lt_of_le hg0 hb13.size
      clear ho1 hk3 x0 x1 x2 x3 m0 m1 m2 m3 mf
      rw [rounds_succ]
      go_wp2_with fail
      refine wp_loop_rounds 1 ?_
      rw [rounds_succ]
      have HO2 := Lib.hid ((HO1.out.below (W1 := w3.alloc (.cells #[.int .i64 2, .float .f64 0, .string s, .slice none 0 0] 27)) (by repeat (first | (with_reducible exact Below.refl _ _) | (with_reducible assumption) | ((with_reducible refine Below.alloc ?_ ?_ _); rotate_left; focus (first | exact Nat.le_refl _ | omega | (simp; done) | (simp; omega))) | ((with_reducible refine Below.setCell ?_ ?_ _); rotate_left; focus (first | exact Nat.le_refl _ | omega | (simp; done) | (simp; omega))) | (with_reducible refine Below.drew ?_) | (with_reducible refine below_drewN ?_ _) | ((with_reducible refine below_via (by assumption) ?_ ?_); focus (first | exact Nat.le_refl _ | omega | (simp; done) | (simp; omega)))))).below (W1 := (w3.alloc (.cells #[.int .i64 2, .float .f64 0, .string s, .slice none 0 0] 27)).alloc (.cells #[.int .i64 2, .float .f64 0, .string s, .slice none 0 0] 52)) (by repeat (first | (with_reducible exact Below.refl _ _) | (with_reducible assumption) | ((with_reducible refine Below.alloc ?_ ?_ _); rotate_left; focus (first | exact Nat.le_refl _ | omega | (simp; done) | (simp; omega))) | ((with_reducible refine Below.setCell ?_ ?_ _); rotate_left; focus (first | exact Nat.le_refl _ | omega | (simp; done) | (simp; omega))) | (with_reducible refine Below.drew ?_) | (with_reducible refine below_drewN ?_ _) | ((with_reducible refine below_via (by assumption) ?_ ?_); focus (first | exact Nat.le_refl _ | omega | (simp; done) | (simp; omega))))))
      go_wp2_with (at_builtin; refine appB wr.heap.size (by simp; omega) rfl _ _ 54 52 _ 4 56 rfl under54 info52 rfl (by decide) (by decide) v1 _ [.int .i64 2, .float .f64 0, .string s, .slice none 0 0] rfl (by first | rfl | (change Value.slice (some ⟨_, 0, none⟩) 1 1 = _; simp [World.setCell])) rfl (oneC _ _ _ _ rfl rfl rfl rfl) HO2.out (by simp) ?_; intro v5 w5 ho5 hb5 hk5 hz5)
      have hb15 : Below wr.heap.size wr w5 := Below.trans (by repeat (first | (with_reducible exact Below.refl _ _) | (with_reducible assumption) | ((with_reducible refine Below.alloc ?_ ?_ _); rotate_left; focus (first | exact Nat.le_refl _ | omega | (simp; done) | (simp; omega))) | ((with_reducible refine Below.setCell ?_ ?_ _); rotate_left; focus (first | exact Nat.le_refl _ | omega | (simp; done) | (simp; omega))) | (with_reducible refine Below.drew ?_) | (with_reducible refine below_drewN ?_ _) | ((with_reducible refine below_via (by assumption) ?_ ?_); focus (first | exact Nat.le_refl _ | omega | (simp; done) | (simp; omega))))) hb5
      have hbF : Below w.heap.size w w5 := hbf.trans (hb15.mono hbf.size)
      obtain ⟨A5, c5, rfl, hr5⟩ := ho5.row
      have HR5 := Lib.hid hr5
      clear ho5 hk5 hr5
      rw [rounds_succ]
      go_wp2_with fail
      go_ret
      rcases HR5.out with h | ⟨g5, rfl, hg5, hc5⟩
      · cases h
      · exact ⟨g5, c5, A', c', rfl, mtrow_of hg5 (by rw [List.length_map]; exact HN.out) (HCO.out.below hb15) hc5, hbF⟩
end Go.Proofs.YtkhgaenffnoimaaGreatDoor
