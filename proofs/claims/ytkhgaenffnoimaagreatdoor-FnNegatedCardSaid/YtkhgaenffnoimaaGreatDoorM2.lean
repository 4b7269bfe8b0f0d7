/- The laws' columns of numbers. -/
import Derived.Test.YtkhgaenffnoimaaGreatDoorM1
import Derived.Test.YtkhgaenffnoimaaGreatDoorJC
set_option linter.unusedSimpArgs false
set_option linter.unusedVariables false
namespace Go.Proofs.YtkhgaenffnoimaaGreatDoor
open Go.RowKit
attribute [local go_sem] run_store_float
/-- append of the first element onto nil. -/
theorem appOne {ops : Array Oper} {rest : List Oper} {o : Oper} {a : Act} {Q : Exit → Act → World → Prop} {W : World} (hgd : o.guard = none) (s x : Operand) (t e : TypeId) (z : Value) (sz bytes : Nat)
    (ho : o.op = .call { callee := .builtin .append, args := #[s, x], argTypes := #[t, t] })
    (ht : Tryz.prog.underlying t = some (.slice e)) (hinfo : (Tryz.prog.info? e).map (fun i => (i.zero, i.size, i.bytes)) = some (some z, sz, bytes)) (hz : z.cells.size = sz) (hs0 : 0 < sz) (hb0 : 0 < bytes) (hb1 : bytes ≤ 100000)
    (ys : List Value) (hs : a.eval s = .slice none 0 0) (hx : a.eval x = .slice (some ⟨W.heap.size, 0, none⟩) 1 1) (hys : ys.length = sz) (h1 : ∀ u ∈ ys, u.oneCell' = true)
    (h : ∀ (g c : Nat) (w1 : World), W.heap.size ≤ g → g < w1.heap.size → (∀ (i : Nat) (u : Value), ys[i]? = some u → w1.cell? ⟨g, i, none⟩ = some u) → Below W.heap.size W w1 → wpList Tryz.prog ops Q rest (a.put o.dst (.slice (some ⟨g, 0, none⟩) 1 c)) w1) :
    wpList Tryz.prog ops Q (o :: rest) a (W.alloc (.cells ys.toArray e)) := by
  refine app1k (w0 := W) hgd s x t e z sz bytes ho ht hinfo hz hs0 hb0 _ [] ys hs hx hys h1 (own_nil _ _ _ _) (Below.refl _ _) (by simp; omega) ?_
  intro v1 w1 ho1 hb _ _
  obtain ⟨A, c, rfl, hr⟩ := ho1.row
  rcases hr with h' | ⟨g, rfl, hg, hc⟩
  · simp at h'
  · have hlt := (ho1.1.lt g rfl).1
    exact h g c w1 hlt hg (fun i u hu => by simpa using hc 0 ys rfl i u hu) hb
theorem app32n {ops : Array Oper} {rest : List Oper} {o : Oper} {a : Act} {Q : Exit → Act → World → Prop} {W : World} (y : V) (s x : Operand) (hgd : o.guard = none)
    (ho : o.op = .call { callee := .builtin .append, args := #[s, x], argTypes := #[43, 43] }) (hs : a.eval s = .slice none 0 0) (hx : a.eval x = .slice (some ⟨W.heap.size, 0, none⟩) 1 1)
    (h : ∀ (g c : Nat) (w1 : World), W.heap.size ≤ g → g < w1.heap.size → (∀ (i : Nat) (u : Value), y.cells[i]? = some u → w1.cell? ⟨g, i, none⟩ = some u) → Below W.heap.size W w1 → wpList Tryz.prog ops Q rest (a.put o.dst (.slice (some ⟨g, 0, none⟩) 1 c)) w1) :
    wpList Tryz.prog ops Q (o :: rest) a (W.alloc (.cells #[.int .i64 y.k, .int .i64 y.n, .int .i64 y.d, .string y.t, .slice none 0 0] 32)) :=
  appOne hgd s x 43 32 _ 5 64 ho under43 info32 rfl (by decide) (by decide) (by decide) y.cells hs hx rfl
    (by intro u hu; simp only [V.cells, List.mem_cons, List.not_mem_nil, or_false] at hu; rcases hu with rfl | rfl | rfl | rfl | rfl <;> rfl) h
/-- The cells of the laws' item of a number. -/
def itN (k : Int) : List Value := [.int .i64 1, .int .i64 k, .string ⟨#[]⟩]
/-- Block b is a new value of the reference's, free to be written. -/
structure ZCell (w : World) (b : Nat) : Prop where
  lt : b < w.heap.size
  q0 : w.cell? ⟨b, 0, none⟩ = some (.int .i64 0)
  q1 : w.cell? ⟨b, 1, none⟩ = some (.int .i64 0)
  q2 : w.cell? ⟨b, 2, none⟩ = some (.int .i64 0)
  q3 : w.cell? ⟨b, 3, none⟩ = some (.string ⟨#[]⟩)
  q4 : w.cell? ⟨b, 4, none⟩ = some (.slice none 0 0)
  fr : ∀ o, w.frozen? ⟨b, o, none⟩ = false
theorem ZCell.below {w w1 : World} {b B : Nat} (h : ZCell w b) (hlt : b < B) (hb : Below B w w1) : ZCell w1 b :=
  ⟨Nat.lt_of_lt_of_le h.lt hb.size, (hb.cell (p := ⟨b, _, none⟩) hlt).trans h.q0, (hb.cell (p := ⟨b, _, none⟩) hlt).trans h.q1, (hb.cell (p := ⟨b, _, none⟩) hlt).trans h.q2, (hb.cell (p := ⟨b, _, none⟩) hlt).trans h.q3, (hb.cell (p := ⟨b, _, none⟩) hlt).trans h.q4, fun o => (hb.frozen (p := ⟨b, o, none⟩) hlt).trans (h.fr o)⟩
theorem zcell_new (w : World) : ZCell (w.alloc (.cells #[.int .i64 0, .int .i64 0, .int .i64 0, .string ⟨#[]⟩, .slice none 0 0] 32)) w.heap.size :=
  ⟨by simp, by simp [go_sem], by simp [go_sem], by simp [go_sem], by simp [go_sem], by simp [go_sem], fun o => frozen_alloc _ _ _ _⟩
set_option maxRecDepth 100000 in
set_option maxHeartbeats 1000000 in
theorem c49 (ks : List Int) (A : Option Addr) (c : Nat) (w : World) (hl : ks.length ≤ 120) (h0 : 0 < ks.length) (hk : ∀ k, k ∈ ks → -9999 ≤ k ∧ k ≤ 9999) (hx : CRow w A 3 (ks.map itN)) :
    Calls Tryz.prog 49 #[.slice A ks.length c, .int .i64 0] w (fun e w' => ∃ A' c', e = .returned (.agg #[.int .i64 5, .int .i64 0, .int .i64 0, .string ⟨#[]⟩, .slice A' ks.length c']) ∧ ColB w.heap.size w' A' 5 (ks.map fun k => (vN k).cells) ∧ Below w.heap.size w w') := by
  rcases hx with h | ⟨g, rfl, hg, hc⟩
  · rw [List.map_eq_nil_iff.1 h] at h0
    cases h0
  have HC : Hid (∀ (j : Nat) (k : Int), ks[j]? = some k → w.cell? ⟨g, j * 3, none⟩ = some (.int .i64 1) ∧ w.cell? ⟨g, j * 3 + 1, none⟩ = some (.int .i64 k) ∧ w.cell? ⟨g, j * 3 + 2, none⟩ = some (.string ⟨#[]⟩)) := Lib.hid fun j k hj => by
    have h1 : (ks.map itN)[j]? = some (itN k) := by rw [List.getElem?_map, hj]; rfl
    exact ⟨hc j _ h1 0 _ rfl, hc j _ h1 1 _ rfl, hc j _ h1 2 _ rfl⟩
  have HK := Lib.hid hk
  clear hc hk
  obtain ⟨n, hn⟩ : ∃ n, n = ks.length := ⟨_, rfl⟩
  rw [← hn] at hl h0 ⊢
  have HN := Lib.hid hn
  clear hn
  have hx1 : ¬ (120 : Int) < (n : Int) := by omega
  have hx2 : ((n : Int) == 0) = false := by
    have : ¬ (n : Int) = 0 := by omega
    simpa using this
  have hx3 : decide ((120 : Int) < (n : Int)) = false := by simpa using hx1
  go_enter Tryz.func49, Tryz.ntmps49
  go_wp2_with (go_at_call 15; refine (c15_0 _).mono ?_; rintro e w1 ⟨rfl, rfl⟩)
  have HZ := Lib.hid (zcell_new w)
  have hbA : Below w.heap.size w (w.alloc (.cells #[.int .i64 0, .int .i64 0, .int .i64 0, .string ⟨#[]⟩, .slice none 0 0] 32)) := (by repeat (first | (with_reducible exact Below.refl _ _) | (with_reducible assumption) | ((with_reducible refine Below.alloc ?_ ?_ _); rotate_left; focus (first | exact Nat.le_refl _ | omega | (simp; done) | (simp; omega))) | ((with_reducible refine Below.setCell ?_ ?_ _); rotate_left; focus (first | exact Nat.le_refl _ | omega | (simp; done) | (simp; omega))) | (with_reducible refine Below.drew ?_) | (with_reducible refine below_drewN ?_ _) | ((with_reducible refine below_via (by assumption) ?_ ?_); focus (first | exact Nat.le_refl _ | omega | (simp; done) | (simp; omega)))))
  have hsA : (w.alloc (.cells #[.int .i64 0, .int .i64 0, .int .i64 0, .string ⟨#[]⟩, .slice none 0 0] 32)).heap.size = w.heap.size + 1 := by simp
  generalize (w.alloc (.cells #[.int .i64 0, .int .i64 0, .int .i64 0, .string ⟨#[]⟩, .slice none 0 0] 32)) = W0 at HZ hbA hsA ⊢
  go_loopw [6, 7] (fun v i wr => ∃ q : Nat, q ≤ n ∧ i = .int .i64 q ∧ Below W0.heap.size W0 wr ∧ CB W0 wr 43 v ((ks.take q).map fun k => (vN k).cells)) (fun _ i _ => n - (intOf i).toNat)
  case atStart => exact ⟨0, Nat.zero_le _, rfl, Below.refl _ _, cb_nil _ _ _⟩
  case round =>
    obtain ⟨q, hq, rfl, hb, hcb⟩ := hrel
    have HCB := Lib.hid hcb
    clear hcb
    have hwr := hb.size
    by_cases hlt : q < n
    · obtain ⟨k, hkq⟩ : ∃ k, ks[q]? = some k := ⟨_, List.getElem?_eq_getElem (by rw [← HN.out]; exact hlt)⟩
      have hkb := HK.out k (List.mem_of_getElem? hkq)
      have hbw : Below w.heap.size w wr := hbA.trans (hb.mono (by omega))
      obtain ⟨e0, e1, e2⟩ := HC.out q k hkq
      have e0' := (hbw.cell (p := ⟨g, q * 3, none⟩) hg).trans e0
      have e1' := (hbw.cell (p := ⟨g, q * 3 + 1, none⟩) hg).trans e1
      have e2' := (hbw.cell (p := ⟨g, q * 3 + 2, none⟩) hg).trans e2
      have hgr : g < wr.heap.size := by omega
      clear e0 e1 e2
      have HKQ := Lib.hid hkq
      clear hkq
      go_wp2_with fail
      refine wp_loop_rounds 2 ?_
      rw [rounds_succ]
      go_wp2_with fail
      refine (c67 k _ (by omega) (by omega)).mono ?_
      rintro e w2 ⟨rfl, hb2⟩
      have hs2 : wr.heap.size < w2.heap.size := Nat.lt_of_lt_of_le (by simp) hb2.size
      have hq2 : ∀ o, o < 5 → w2.cell? ⟨wr.heap.size, o, none⟩ = (#[.int .i64 0, .int .i64 0, .int .i64 0, .string ⟨#[]⟩, .slice none 0 0] : Array Value)[o]? := fun o ho => (hb2.cell (p := ⟨wr.heap.size, o, none⟩) (by simp)).trans (World.cell?_alloc_new ..)
      have hfr : ∀ o, w2.frozen? ⟨wr.heap.size, o, none⟩ = false := fun o => (hb2.frozen (p := ⟨wr.heap.size, o, none⟩) (by simp)).trans (frozen_alloc _ _ _ _)
      have q0 := hq2 0 (by decide)
      have q1 := hq2 1 (by decide)
      have q2 := hq2 2 (by decide)
      have q3 := hq2 3 (by decide)
      have q4 := hq2 4 (by decide)
      simp at q0 q1 q2 q3 q4
      have hbr2 : Below wr.heap.size wr w2 := keepS' (Below.alloc (Below.refl _ _) (Nat.le_refl _) _) (by simp) hb2
      clear hq2 hb2 e0' e1' e2'
      go_wp2_with (at_builtin; refine app32n (vN k) _ _ rfl rfl rfl (by first | rfl | (change Value.slice (some ⟨_, 0, none⟩) 1 1 = _; simp [World.setCell])) ?_; intro g1 c1 w3 hg1 hg1l hcc1 hb3)
      have hbX : Below wr.heap.size wr (((((w2.setCell ⟨wr.heap.size, 0, none⟩ (.int .i64 1)).setCell ⟨wr.heap.size, 1, none⟩ (.int .i64 k)).setCell ⟨wr.heap.size, 2, none⟩ (.int .i64 1)).setCell ⟨wr.heap.size, 3, none⟩ (.string ⟨#[]⟩)).setCell ⟨wr.heap.size, 4, none⟩ (.slice none 0 0)) := (by repeat (first | (with_reducible exact Below.refl _ _) | (with_reducible assumption) | ((with_reducible refine Below.alloc ?_ ?_ _); rotate_left; focus (first | exact Nat.le_refl _ | omega | (simp; done) | (simp; omega))) | ((with_reducible refine Below.setCell ?_ ?_ _); rotate_left; focus (first | exact Nat.le_refl _ | omega | (simp; done) | (simp; omega))) | (with_reducible refine Below.drew ?_) | (with_reducible refine below_drewN ?_ _) | ((with_reducible refine below_via (by assumption) ?_ ?_); focus (first | exact Nat.le_refl _ | omega | (simp; done) | (simp; omega)))))
      have hsX : (((((w2.setCell ⟨wr.heap.size, 0, none⟩ (.int .i64 1)).setCell ⟨wr.heap.size, 1, none⟩ (.int .i64 k)).setCell ⟨wr.heap.size, 2, none⟩ (.int .i64 1)).setCell ⟨wr.heap.size, 3, none⟩ (.string ⟨#[]⟩)).setCell ⟨wr.heap.size, 4, none⟩ (.slice none 0 0)).heap.size = w2.heap.size := by simp
      generalize (((((w2.setCell ⟨wr.heap.size, 0, none⟩ (.int .i64 1)).setCell ⟨wr.heap.size, 1, none⟩ (.int .i64 k)).setCell ⟨wr.heap.size, 2, none⟩ (.int .i64 1)).setCell ⟨wr.heap.size, 3, none⟩ (.string ⟨#[]⟩)).setCell ⟨wr.heap.size, 4, none⟩ (.slice none 0 0)) = X at hg1 hb3 hbX hsX
      have hbr3 : Below wr.heap.size wr w3 := keepS' hbX (by omega) hb3
      have hg1r : wr.heap.size ≤ g1 := by omega
      clear hb3 hbX hg1 hsX hbr2 hfr q0 q1 q2 q3 q4
      have HBR := Lib.hid hbr3
      have hz3 := hbr3.size
      have hb03 : Below W0.heap.size W0 w3 := hb.trans (hbr3.mono (by omega))
      have hcb3 : Hid (CB W0 w3 43 u6 (List.map (fun k => (vN k).cells) (List.take q ks))) := Lib.hid (HCB.out.below hbr3)
      have hne : u6.ownBlock ≠ some g1 := by
        obtain ⟨rs, _, ho, _⟩ := HCB.out
        intro e
        have := (ho.1.lt g1 e).2
        omega
      clear hbr3
      rw [rounds_succ]
      go_wp2_with (at_builtin; refine appRow 30 43 under30 info43 _ (List.map (fun k => (vN k).cells) (List.take q ks)) (vN k).cells g1 c1 _ _ rfl rfl rfl rfl hcb3.out hb03 (by rw [List.length_map, List.length_take]; omega) (by omega) hg1l hne hcc1 ?_; intro v4 w4 hcb4 hb4 hk4 hz4)
      refine ⟨⟨q + 1, by omega, by simp, hb4, ?_⟩, by simp only [intOf]; omega⟩
      rw [take_succ_of HKQ.out, List.map_append]
      exact hcb4
    · have hqn : q = n := by omega
      subst hqn
      obtain ⟨A', c', rfl, hcol⟩ := HCB.out.col 5
      have hln : (List.map (fun k => (vN k).cells) (List.take q ks)).length = q := by rw [List.length_map, List.length_take]; have := HN.out; omega
      have htk : List.take q ks = ks := by rw [HN.out, List.take_length]
      rw [hln]
      rw [htk] at hcol
      clear hln
      have HCO := Lib.hid hcol
      clear hcol
      have HZ4 : ZCell wr w.heap.size := HZ.out.below HZ.out.lt hb
      have HZq := Lib.hid HZ4
      obtain ⟨hzl, z0, z1, z2, z3, z4, hfr⟩ := HZ4
      go_wp2_with (go_at_call 68; refine (c68 A' q c' _).mono ?_; rintro e w4 ⟨rfl, hb4⟩; have HZ5 := HZq.out.below hzl hb4; clear hzl z0 z1 z2 z3 z4 hfr; obtain ⟨hzl, z0, z1, z2, z3, z4, hfr⟩ := HZ5)
      have hbf : Below w.heap.size w w4 := hbA.trans ((hb.trans (hb4.mono (by have := hb.size; omega))).mono (by omega))
      refine bodyPost_ret (v := .agg #[.int .i64 5, .int .i64 0, .int .i64 0, .string ⟨#[]⟩, .slice A' q c']) (by first | (simp [results, Tryz.results49, go_sem]; done) | (simp [results, Tryz.results49, go_sem, *]; done)) rfl ⟨A', c', rfl, ?_, (by repeat (first | (with_reducible exact Below.refl _ _) | (with_reducible assumption) | ((with_reducible refine Below.alloc ?_ ?_ _); rotate_left; focus (first | exact Nat.le_refl _ | omega | (simp; done) | (simp; omega))) | ((with_reducible refine Below.setCell ?_ ?_ _); rotate_left; focus (first | exact Nat.le_refl _ | omega | (simp; done) | (simp; omega))) | (with_reducible refine Below.drew ?_) | (with_reducible refine below_drewN ?_ _) | ((with_reducible refine below_via (by assumption) ?_ ?_); focus (first | exact Nat.le_refl _ | omega | (simp; done) | (simp; omega)))))⟩
      refine HCO.out.step (by omega) (by simp; exact hb4.size) ?_
      intro b o hb1 hb2
      have hne : ∀ i : Nat, ¬((⟨b, o, none⟩ : Addr) = ⟨w.heap.size, i, none⟩) := by
        intro i hi
        have := congrArg Addr.block hi
        simp at this
        omega
      have hne' : ¬ (w.heap.size = b) := by omega
      rw [← hb4.cell (p := ⟨b, o, none⟩) hb2]
      simp [go_sem, hne, hne']
end Go.Proofs.YtkhgaenffnoimaaGreatDoor
