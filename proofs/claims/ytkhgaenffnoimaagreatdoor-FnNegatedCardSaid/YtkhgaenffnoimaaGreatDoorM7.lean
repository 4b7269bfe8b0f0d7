/- innerArg of a number and of a matrix. -/
import Derived.Test.YtkhgaenffnoimaaGreatDoorM6
import Derived.Test.YtkhgaenffnoimaaGreatDoorJC
import Derived.Test.YtkhgaenffnoimaaGreatDoorJJ
set_option linter.unusedSimpArgs false
set_option linter.unusedVariables false
namespace Go.Proofs.YtkhgaenffnoimaaGreatDoor
open Go.RowKit
attribute [local go_sem] run_store_float
theorem under63 : Tryz.prog.underlying 63 = some (.slice 68) := by kernel_rfl
theorem info68 : (Tryz.prog.info? 68).map (fun i => (i.zero, i.size, i.bytes)) = some (some (.agg #[.string ⟨#[]⟩, .float .f64 0, .string ⟨#[]⟩, .slice none 0 0, .slice none 0 0, .bool false, .string ⟨#[]⟩, .int .u8 0, .pointer none, .pointer none]), 10, 136) := by kernel_rfl
theorem under64 : Tryz.prog.underlying 64 = some (.slice 63) := by kernel_rfl
theorem info63 : (Tryz.prog.info? 63).map (fun i => (i.zero, i.size, i.bytes)) = some (some (.slice none 0 0), 1, 24) := by kernel_rfl
def fNc (b : Nat) : List Value := [.string ⟨#[]⟩, .float .f64 b, .string ⟨#[]⟩, .slice none 0 0, .slice none 0 0, .bool false, .string ⟨#[]⟩, .int .u8 1, .pointer none, .pointer none]
set_option maxRecDepth 100000 in
set_option maxHeartbeats 1000000 in
theorem c66_1 (b : Nat) (t : ByteArray) (w : World) (h : FOK b) : Calls Tryz.prog 66 #[.agg #[.int .i64 1, .float .f64 b, .string t, .slice none 0 0]] w (Ret w (fN b)) := by
  go_enter Tryz.func66, Tryz.ntmps66
  go_wp2_with fail
  have hbA : Below w.heap.size w ((w.alloc (.cells #[.int .i64 1, .float .f64 b, .string t, .slice none 0 0] 52)).alloc (.cells #[.string ⟨#[]⟩, .float .f64 0, .string ⟨#[]⟩, .slice none 0 0, .slice none 0 0, .bool false, .string ⟨#[]⟩, .int .u8 0, .pointer none, .pointer none] 68)) := (by repeat (first | (with_reducible exact Below.refl _ _) | (with_reducible assumption) | ((with_reducible refine Below.alloc ?_ ?_ _); rotate_left; focus (first | exact Nat.le_refl _ | omega | (simp; done) | (simp; omega))) | ((with_reducible refine Below.setCell ?_ ?_ _); rotate_left; focus (first | exact Nat.le_refl _ | omega | (simp; done) | (simp; omega))) | (with_reducible refine Below.drew ?_) | (with_reducible refine below_drewN ?_ _) | ((with_reducible refine below_via (by assumption) ?_ ?_); focus (first | exact Nat.le_refl _ | omega | (simp; done) | (simp; omega)))))
  have hsA : ((w.alloc (.cells #[.int .i64 1, .float .f64 b, .string t, .slice none 0 0] 52)).alloc (.cells #[.string ⟨#[]⟩, .float .f64 0, .string ⟨#[]⟩, .slice none 0 0, .slice none 0 0, .bool false, .string ⟨#[]⟩, .int .u8 0, .pointer none, .pointer none] 68)).heap.size = w.heap.size + 2 := by simp
  have HZ : Hid (Z64 ((w.alloc (.cells #[.int .i64 1, .float .f64 b, .string t, .slice none 0 0] 52)).alloc (.cells #[.string ⟨#[]⟩, .float .f64 0, .string ⟨#[]⟩, .slice none 0 0, .slice none 0 0, .bool false, .string ⟨#[]⟩, .int .u8 0, .pointer none, .pointer none] 68)) (w.heap.size + 1)) := Lib.hid (by simpa using z64_new (w.alloc (.cells #[.int .i64 1, .float .f64 b, .string t, .slice none 0 0] 52)) 68)
  generalize ((w.alloc (.cells #[.int .i64 1, .float .f64 b, .string t, .slice none 0 0] 52)).alloc (.cells #[.string ⟨#[]⟩, .float .f64 0, .string ⟨#[]⟩, .slice none 0 0, .slice none 0 0, .bool false, .string ⟨#[]⟩, .int .u8 0, .pointer none, .pointer none] 68)) = W1 at hbA hsA HZ ⊢
  refine (c63' b W1 h).mono ?_
  rintro e w1 ⟨rfl, hb1⟩
  obtain ⟨zl, z0, z1, z2, z3, z4, z5, z6, z7, z8, z9, zf⟩ := HZ.out.below hb1
  have hbf : Below w.heap.size w w1 := hbA.trans (hb1.mono (by omega))
  go_wp2_with fail
  unfold fN
  (refine bodyPost_ret (v := .agg #[.string ⟨#[]⟩, .float .f64 b, .string ⟨#[]⟩, .slice none 0 0, .slice none 0 0, .bool false, .string ⟨#[]⟩, .int .u8 1, .pointer none, .pointer none]) ?_ rfl ?_; (focus (first | (simp [results, Tryz.results66, go_sem, hc1, hz1]; done) | (simp [results, Tryz.results66, go_sem]; done) | (simp [results, Tryz.results66, go_sem, *]; done))); exact ret_mk (by repeat (first | (with_reducible exact Below.refl _ _) | (with_reducible assumption) | ((with_reducible refine Below.alloc ?_ ?_ _); rotate_left; focus (first | exact Nat.le_refl _ | omega | (simp; done) | (simp; omega))) | ((with_reducible refine Below.setCell ?_ ?_ _); rotate_left; focus (first | exact Nat.le_refl _ | omega | (simp; done) | (simp; omega))) | (with_reducible refine Below.drew ?_) | (with_reducible refine below_drewN ?_ _) | ((with_reducible refine below_via (by assumption) ?_ ?_); focus (first | exact Nat.le_refl _ | omega | (simp; done) | (simp; omega))))))
theorem c66_1u (b : Nat) (t : ByteArray) (w : World) (h : FOK b) : Calls Tryz.prog 66 #[.agg #[.int .i64 1, .float .f64 b, .string t, .slice none 0 0]] w (Ret w (.agg #[.string ⟨#[]⟩, .float .f64 b, .string ⟨#[]⟩, .slice none 0 0, .slice none 0 0, .bool false, .string ⟨#[]⟩, .int .u8 1, .pointer none, .pointer none])) := c66_1 b t w h
theorem app63n {ops : Array Oper} {rest : List Oper} {o : Oper} {a : Act} {Q : Exit → Act → World → Prop} {W : World} (b : Nat) (s x : Operand) (hgd : o.guard = none)
    (ho : o.op = .call { callee := .builtin .append, args := #[s, x], argTypes := #[63, 63] }) (hs : a.eval s = .slice none 0 0) (hx : a.eval x = .slice (some ⟨W.heap.size, 0, none⟩) 1 1)
    (h : ∀ (g c : Nat) (w1 : World), W.heap.size ≤ g → g < w1.heap.size → (∀ (i : Nat) (u : Value), (fNc b)[i]? = some u → w1.cell? ⟨g, i, none⟩ = some u) → Below W.heap.size W w1 → wpList Tryz.prog ops Q rest (a.put o.dst (.slice (some ⟨g, 0, none⟩) 1 c)) w1) :
    wpList Tryz.prog ops Q (o :: rest) a (W.alloc (.cells #[.string ⟨#[]⟩, .float .f64 b, .string ⟨#[]⟩, .slice none 0 0, .slice none 0 0, .bool false, .string ⟨#[]⟩, .int .u8 1, .pointer none, .pointer none] 68)) :=
  appOne hgd s x 63 68 _ 10 136 ho under63 info68 rfl (by decide) (by decide) (by decide) (fNc b) hs hx rfl
    (by intro u hu; simp only [fNc, List.mem_cons, List.not_mem_nil, or_false] at hu; rcases hu with rfl | rfl | rfl | rfl | rfl | rfl | rfl | rfl | rfl | rfl <;> rfl) h
/-- Block b is a matrix formula argument, free to be written. -/
structure FBlk (w : World) (b : Nat) (m p q : Value) : Prop where
  lt : b < w.heap.size
  c0 : w.cell? ⟨b, 0, none⟩ = some (.string ⟨#[]⟩)
  c1 : w.cell? ⟨b, 1, none⟩ = some (.float .f64 0)
  c2 : w.cell? ⟨b, 2, none⟩ = some (.string ⟨#[]⟩)
  c3 : w.cell? ⟨b, 3, none⟩ = some (.slice none 0 0)
  c4 : w.cell? ⟨b, 4, none⟩ = some m
  c5 : w.cell? ⟨b, 5, none⟩ = some (.bool false)
  c6 : w.cell? ⟨b, 6, none⟩ = some (.string ⟨#[]⟩)
  c7 : w.cell? ⟨b, 7, none⟩ = some (.int .u8 4)
  c8 : w.cell? ⟨b, 8, none⟩ = some p
  c9 : w.cell? ⟨b, 9, none⟩ = some q
  fr : ∀ o, w.frozen? ⟨b, o, none⟩ = false
theorem FBlk.below {w w1 : World} {b : Nat} {m p q : Value} (h : FBlk w b m p q) (hb : Below w.heap.size w w1) : FBlk w1 b m p q :=
  ⟨Nat.lt_of_lt_of_le h.lt hb.size, (hb.cell (p := ⟨b, _, none⟩) h.lt).trans h.c0, (hb.cell (p := ⟨b, _, none⟩) h.lt).trans h.c1, (hb.cell (p := ⟨b, _, none⟩) h.lt).trans h.c2, (hb.cell (p := ⟨b, _, none⟩) h.lt).trans h.c3, (hb.cell (p := ⟨b, _, none⟩) h.lt).trans h.c4,
    (hb.cell (p := ⟨b, _, none⟩) h.lt).trans h.c5, (hb.cell (p := ⟨b, _, none⟩) h.lt).trans h.c6, (hb.cell (p := ⟨b, _, none⟩) h.lt).trans h.c7, (hb.cell (p := ⟨b, _, none⟩) h.lt).trans h.c8, (hb.cell (p := ⟨b, _, none⟩) h.lt).trans h.c9, fun o => (hb.frozen (p := ⟨b, o, none⟩) h.lt).trans (h.fr o)⟩
theorem FBlk.pushed {w : World} {b L a n : Nat} {v m p q : Value} (h : FBlk w b m p q) (hL : b ≠ L) (ha : b ≠ a) : FBlk (pushed w L a n v) b m p q :=
  ⟨by rw [pushed_size]; exact Nat.lt_succ_of_lt h.lt, (pushed_cell h.lt (fun e => ha e.1) (fun e => hL e.1) (fun e => hL e.1)).trans h.c0, (pushed_cell h.lt (fun e => ha e.1) (fun e => hL e.1) (fun e => hL e.1)).trans h.c1, (pushed_cell h.lt (fun e => ha e.1) (fun e => hL e.1) (fun e => hL e.1)).trans h.c2, (pushed_cell h.lt (fun e => ha e.1) (fun e => hL e.1) (fun e => hL e.1)).trans h.c3, (pushed_cell h.lt (fun e => ha e.1) (fun e => hL e.1) (fun e => hL e.1)).trans h.c4, (pushed_cell h.lt (fun e => ha e.1) (fun e => hL e.1) (fun e => hL e.1)).trans h.c5, (pushed_cell h.lt (fun e => ha e.1) (fun e => hL e.1) (fun e => hL e.1)).trans h.c6, (pushed_cell h.lt (fun e => ha e.1) (fun e => hL e.1) (fun e => hL e.1)).trans h.c7, (pushed_cell h.lt (fun e => ha e.1) (fun e => hL e.1) (fun e => hL e.1)).trans h.c8, (pushed_cell h.lt (fun e => ha e.1) (fun e => hL e.1) (fun e => hL e.1)).trans h.c9, fun o => (pushed_frozen h.lt).trans (h.fr o)⟩
theorem DL.keep {w w1 : World} {L : Nat} {bs : List Nat} {vs : List Value} (h : DL w L bs vs) (hs : w.heap.size ≤ w1.heap.size) (hk : ∀ b o, (b = L ∨ b ∈ bs) → w1.cell? ⟨b, o, none⟩ = w.cell? ⟨b, o, none⟩) (hf : ∀ b o, (b = L ∨ b ∈ bs) → w1.frozen? ⟨b, o, none⟩ = w.frozen? ⟨b, o, none⟩) : DL w1 L bs vs :=
  ⟨Nat.lt_of_lt_of_le h.lt hs, (hk L _ (.inl rfl)).trans h.nxt, (hk L _ (.inl rfl)).trans h.prv, (hk L _ (.inl rfl)).trans h.len, fun o => (hf L o (.inl rfl)).trans (h.fr o),
    fun i b hi => by
      obtain ⟨h1, h2, h3, h4, h5, h6⟩ := h.el i b hi
      have hm := List.mem_of_getElem? hi
      exact ⟨Nat.lt_of_lt_of_le h1 hs, h2, (hk b _ (.inr hm)).trans h3, (hk b _ (.inr hm)).trans h4, (hk b _ (.inr hm)).trans h5, fun o => (hf b _ (.inr hm)).trans (h6 o)⟩, h.inj, h.leneq⟩
theorem DL.set {w : World} {L : Nat} {bs : List Nat} {vs : List Value} (h : DL w L bs vs) (g i : Nat) (u : Value) (hL : L ≠ g) (hb : ∀ b, b ∈ bs → b ≠ g) : DL (w.setCell ⟨g, i, none⟩ u) L bs vs :=
  h.keep (by simp) (fun b o hm => by
    have hne : b ≠ g := by
      rcases hm with rfl | hm
      · exact hL
      · exact hb b hm
    exact World.cell?_setCell_other w _ _ _ (fun he => hne (by injection he with h1; exact h1.symm))) (fun b o _ => by rw [World.frozen?_setCell])
theorem after65 {w5 w6 : World} {L1 L2 : Nat} {v : Value} (h1 : DL w5 L1 [] []) (h2 : DL w5.drew L2 [] []) (hne : L1 ≠ L2) (hw : w6 = pushed w5.drew L2 (lastOf L2 []) ([] : List Nat).length v) : (∃ bx vx, w5.heap.size ≤ bx ∧ DL w6 L2 [bx] [vx]) ∧ DL w6 L1 [] [] := by
  subst hw
  refine ⟨⟨_, _, Nat.le_refl _, h2.push v⟩, h1.keep (by rw [pushed_size]; exact Nat.le_succ _) (fun b o hm => ?_) (fun b o hm => ?_)⟩
  · rcases hm with rfl | hm
    · exact pushed_cell (w := w5.drew) h1.lt (fun e => hne e.1) (fun e => hne e.1) (fun e => hne e.1)
    · cases hm
  · rcases hm with rfl | hm
    · exact pushed_frozen (w := w5.drew) h1.lt
    · cases hm
set_option maxRecDepth 100000 in
set_option maxHeartbeats 1000000 in
theorem c93 (A : Option Addr) (n c : Nat) (w : World) : Calls Tryz.prog 93 #[.slice A n c] w (Ret w (.agg #[.string ⟨#[]⟩, .float .f64 0, .string ⟨#[]⟩, .slice none 0 0, .slice A n c, .bool false, .string ⟨#[]⟩, .int .u8 4, .pointer none, .pointer none])) := by
  go_enter Tryz.func93, Tryz.ntmps93
  go_wp2_with fail
  exact bodyPost_ret (v := .agg #[.string ⟨#[]⟩, .float .f64 0, .string ⟨#[]⟩, .slice none 0 0, .slice A n c, .bool false, .string ⟨#[]⟩, .int .u8 4, .pointer none, .pointer none]) (by first | (simp [results, Tryz.results93, go_sem, hc1, hz1]; done) | (simp [results, Tryz.results93, go_sem]; done) | (simp [results, Tryz.results93, go_sem, *]; done)) rfl (ret_mk (by repeat (first | (with_reducible exact Below.refl _ _) | (with_reducible assumption) | ((with_reducible refine Below.alloc ?_ ?_ _); rotate_left; focus (first | exact Nat.le_refl _ | omega | (simp; done) | (simp; omega))) | ((with_reducible refine Below.setCell ?_ ?_ _); rotate_left; focus (first | exact Nat.le_refl _ | omega | (simp; done) | (simp; omega))) | (with_reducible refine Below.drew ?_) | (with_reducible refine below_drewN ?_ _) | ((with_reducible refine below_via (by assumption) ?_ ?_); focus (first | exact Nat.le_refl _ | omega | (simp; done) | (simp; omega))))))
set_option maxRecDepth 100000 in
set_option maxHeartbeats 2000000 in
theorem c66M (ks : List Int) (A : Option Addr) (n c : Nat) (w : World) (hl : n ≤ 120) (h0 : 0 < n) (hlen : n = ks.length) (hkk : ∀ k, k ∈ ks → -9999 ≤ k ∧ k ≤ 9999) (hx : Col w A 4 (ks.map fun k => (iN k).cells)) :
    Calls Tryz.prog 66 #[.agg #[.int .i64 5, .float .f64 0, .string ⟨#[]⟩, .slice A n c]] w (fun e w' => ∃ (A' : Option Addr) (c' L1 L2 : Nat), e = .returned (.agg #[.string ⟨#[]⟩, .float .f64 0, .string ⟨#[]⟩, .slice none 0 0, .slice A' n c', .bool false, .string ⟨#[]⟩, .int .u8 4, .pointer (some ⟨L1, 0, none⟩), .pointer (some ⟨L2, 0, none⟩)]) ∧ ColB w.heap.size w' A' 10 (ks.map fun k => fNc (floatOfInt FloatKind.f64 k)) ∧ DL w' L1 [] [] ∧ (∃ bx vx, w.heap.size ≤ bx ∧ DL w' L2 [bx] [vx]) ∧ w.heap.size ≤ L1 ∧ w.heap.size ≤ L2 ∧ Below w.heap.size w w') := by
  obtain ⟨rs, hrl, hro, hre⟩ := hx
  rw [List.length_map] at hrl
  rcases hro with h | ⟨g', rfl, hg, hc⟩
  · rw [List.map_eq_nil_iff.1 h] at hrl
    simp at hrl
    omega
  have HC : Hid (∀ (j : Nat) (r : Option Addr × Nat), rs[j]? = some r → w.cell? ⟨g', j, none⟩ = some (.slice r.1 1 r.2)) := Lib.hid fun j r hj => by
    have := hc j _ (by rw [List.getElem?_map, hj]; rfl) 0 _ rfl
    simpa using this
  have HE := Lib.hid hre
  have HR : Hid (rs.length = n) := Lib.hid (by omega)
  have HN := Lib.hid hlen
  have HK := Lib.hid hkk
  clear hc hre hrl hlen hkk
  go_enter Tryz.func66, Tryz.ntmps66
  go_wp2_with fail
  have hbA : Below w.heap.size w ((w.alloc (.cells #[.int .i64 5, .float .f64 0, .string ⟨#[]⟩, .slice (some ⟨g', 0, none⟩) n c] 52)).alloc (.cells #[.string ⟨#[]⟩, .float .f64 0, .string ⟨#[]⟩, .slice none 0 0, .slice none 0 0, .bool false, .string ⟨#[]⟩, .int .u8 0, .pointer none, .pointer none] 68)) := (by repeat (first | (with_reducible exact Below.refl _ _) | (with_reducible assumption) | ((with_reducible refine Below.alloc ?_ ?_ _); rotate_left; focus (first | exact Nat.le_refl _ | omega | (simp; done) | (simp; omega))) | ((with_reducible refine Below.setCell ?_ ?_ _); rotate_left; focus (first | exact Nat.le_refl _ | omega | (simp; done) | (simp; omega))) | (with_reducible refine Below.drew ?_) | (with_reducible refine below_drewN ?_ _) | ((with_reducible refine below_via (by assumption) ?_ ?_); focus (first | exact Nat.le_refl _ | omega | (simp; done) | (simp; omega)))))
  have hsA : ((w.alloc (.cells #[.int .i64 5, .float .f64 0, .string ⟨#[]⟩, .slice (some ⟨g', 0, none⟩) n c] 52)).alloc (.cells #[.string ⟨#[]⟩, .float .f64 0, .string ⟨#[]⟩, .slice none 0 0, .slice none 0 0, .bool false, .string ⟨#[]⟩, .int .u8 0, .pointer none, .pointer none] 68)).heap.size = w.heap.size + 2 := by simp
  have HZ : Hid (Z64 ((w.alloc (.cells #[.int .i64 5, .float .f64 0, .string ⟨#[]⟩, .slice (some ⟨g', 0, none⟩) n c] 52)).alloc (.cells #[.string ⟨#[]⟩, .float .f64 0, .string ⟨#[]⟩, .slice none 0 0, .slice none 0 0, .bool false, .string ⟨#[]⟩, .int .u8 0, .pointer none, .pointer none] 68)) (w.heap.size + 1)) := Lib.hid (by simpa using z64_new (w.alloc (.cells #[.int .i64 5, .float .f64 0, .string ⟨#[]⟩, .slice (some ⟨g', 0, none⟩) n c] 52)) 68)
  generalize ((w.alloc (.cells #[.int .i64 5, .float .f64 0, .string ⟨#[]⟩, .slice (some ⟨g', 0, none⟩) n c] 52)).alloc (.cells #[.string ⟨#[]⟩, .float .f64 0, .string ⟨#[]⟩, .slice none 0 0, .slice none 0 0, .bool false, .string ⟨#[]⟩, .int .u8 0, .pointer none, .pointer none] 68)) = W1 at hbA hsA HZ ⊢
  go_loopw [3, 40] (fun v i wr => ∃ q : Nat, q ≤ n ∧ i = .int .i64 q ∧ Below (w.heap.size + 2) W1 wr ∧ CBB (w.heap.size + 2) wr 63 v ((ks.take q).map fun k => fNc (floatOfInt FloatKind.f64 k))) (fun _ i _ => n - (intOf i).toNat)
  case atStart => exact ⟨0, Nat.zero_le _, rfl, Below.refl _ _, cbb_nil _ _ _⟩
  case round =>
    obtain ⟨q, hq, rfl, hb, hcb⟩ := hrel
    have HCB := Lib.hid hcb
    clear hcb
    have hwr := hb.size
    by_cases hlt : q < n
    · obtain ⟨k, hkq⟩ : ∃ k, ks[q]? = some k := ⟨_, List.getElem?_eq_getElem (by rw [← HN.out]; exact hlt)⟩
      obtain ⟨r, hrq⟩ : ∃ r, rs[q]? = some r := ⟨_, List.getElem?_eq_getElem (by rw [HR.out]; exact hlt)⟩
      have hkb := HK.out k (List.mem_of_getElem? hkq)
      have hbw : Below w.heap.size w wr := hbA.trans (hb.mono (by omega))
      have e0 := (hbw.cell (p := ⟨g', q, none⟩) hg).trans (HC.out q r hrq)
      have he1 := (HE.out q r (iN k).cells hrq (by rw [List.getElem?_map, hkq]; rfl)).below hbw
      rcases he1 with h | ⟨g2, hrg, hg2, hc2⟩
      · cases h
      obtain ⟨ra, rc⟩ := r
      dsimp only at hrg
      subst hrg
      have i0 := hc2 0 _ rfl 0 _ rfl
      have i1 := hc2 0 _ rfl 1 _ rfl
      have i2 := hc2 0 _ rfl 2 _ rfl
      have i3 := hc2 0 _ rfl 3 _ rfl
      simp only [iN, Nat.zero_mul, Nat.zero_add] at i0 i1 i2 i3
      clear hc2
      have hgr : g' < wr.heap.size := by omega
      have HKQ := Lib.hid hkq
      clear hkq hrq
      go_wp2_with fail
      refine wp_loop_rounds 2 ?_
      rw [rounds_succ]
      go_wp2_with (first
        | (go_at_call 66; refine (c66_1u _ _ _ (foi_ok k (by omega))).mono ?_; rintro e w2 ⟨rfl, hb2⟩)
        | (at_builtin; refine app63n (floatOfInt FloatKind.f64 k) _ _ rfl rfl rfl (by first | rfl | (change Value.slice (some ⟨_, 0, none⟩) 1 1 = _; simp [World.setCell])) ?_; intro g1 c1 w3 hg1 hg1l hcc1 hb3))
      have hb2r : Below wr.heap.size wr w2 := keepS' (by repeat (first | (with_reducible exact Below.refl _ _) | (with_reducible assumption) | ((with_reducible refine Below.alloc ?_ ?_ _); rotate_left; focus (first | exact Nat.le_refl _ | omega | (simp; done) | (simp; omega))) | ((with_reducible refine Below.setCell ?_ ?_ _); rotate_left; focus (first | exact Nat.le_refl _ | omega | (simp; done) | (simp; omega))) | (with_reducible refine Below.drew ?_) | (with_reducible refine below_drewN ?_ _) | ((with_reducible refine below_via (by assumption) ?_ ?_); focus (first | exact Nat.le_refl _ | omega | (simp; done) | (simp; omega))))) (by simp) hb2
      have hs2 := hb2r.size
      have hb3r : Below wr.heap.size wr w3 := hb2r.trans (hb3.mono hs2)
      have hs3 := hb3r.size
      clear hb2 hb3
      rw [rounds_succ]
      go_wp2_with (at_builtin; refine appRowB (w.heap.size + 2) (by omega) 64 63 under64 info63 _ (List.map (fun k => fNc (floatOfInt FloatKind.f64 k)) (List.take q ks)) (fNc (floatOfInt FloatKind.f64 k)) g1 c1 _ _ rfl rfl rfl (by first | rfl | (change Value.slice (some ⟨_, 0, none⟩) 1 1 = _; simp [World.setCell])) (HCB.out.below hb3r) (by rw [List.length_map, List.length_take]; omega) (by omega) hg1l (HCB.out.ne (by omega)) hcc1 ?_; intro v4 w4 hcb4 hb4 hz4)
      refine ⟨⟨q + 1, by omega, by simp, (hb.trans (hb3r.mono (by omega))).trans hb4, ?_⟩, by simp only [intOf]; omega⟩
      rw [take_succ_of HKQ.out, List.map_append]
      exact hcb4
    · have hqn : q = n := by omega
      subst hqn
      have htk : List.take q ks = ks := by rw [HN.out, List.take_length]
      obtain ⟨A', c', rfl, hcol⟩ := HCB.out.col 10
      have hln : (List.map (fun k => fNc (floatOfInt FloatKind.f64 k)) (List.take q ks)).length = q := by rw [List.length_map, List.length_take]; have := HN.out; omega
      rw [hln]
      rw [htk] at hcol
      clear hln
      have HCO := Lib.hid hcol
      have hbf : Below w.heap.size w wr := hbA.trans (hb.mono (by omega))
      go_wp2_with fail
      refine (c93 A' q c' wr).mono ?_
      rintro e w1 ⟨rfl, hb1⟩
      have hs1 := hb1.size
      go_wp2_with fail
      have hs2 : (w1.alloc (.cells #[.string ⟨#[]⟩, .float .f64 0, .string ⟨#[]⟩, .slice none 0 0, .slice A' q c', .bool false, .string ⟨#[]⟩, .int .u8 4, .pointer none, .pointer none] 68)).heap.size = w1.heap.size + 1 := by simp
      have hb2 : Below wr.heap.size wr (w1.alloc (.cells #[.string ⟨#[]⟩, .float .f64 0, .string ⟨#[]⟩, .slice none 0 0, .slice A' q c', .bool false, .string ⟨#[]⟩, .int .u8 4, .pointer none, .pointer none] 68)) := (by repeat (first | (with_reducible exact Below.refl _ _) | (with_reducible assumption) | ((with_reducible refine Below.alloc ?_ ?_ _); rotate_left; focus (first | exact Nat.le_refl _ | omega | (simp; done) | (simp; omega))) | ((with_reducible refine Below.setCell ?_ ?_ _); rotate_left; focus (first | exact Nat.le_refl _ | omega | (simp; done) | (simp; omega))) | (with_reducible refine Below.drew ?_) | (with_reducible refine below_drewN ?_ _) | ((with_reducible refine below_via (by assumption) ?_ ?_); focus (first | exact Nat.le_refl _ | omega | (simp; done) | (simp; omega)))))
      have HF : Hid (FBlk (w1.alloc (.cells #[.string ⟨#[]⟩, .float .f64 0, .string ⟨#[]⟩, .slice none 0 0, .slice A' q c', .bool false, .string ⟨#[]⟩, .int .u8 4, .pointer none, .pointer none] 68)) w1.heap.size (.slice A' q c') (.pointer none) (.pointer none)) := Lib.hid ⟨by simp, by simp [go_sem], by simp [go_sem], by simp [go_sem], by simp [go_sem], by simp [go_sem], by simp [go_sem], by simp [go_sem], by simp [go_sem], by simp [go_sem], by simp [go_sem], fun o => frozen_alloc _ _ _ _⟩
      generalize (w1.alloc (.cells #[.string ⟨#[]⟩, .float .f64 0, .string ⟨#[]⟩, .slice none 0 0, .slice A' q c', .bool false, .string ⟨#[]⟩, .int .u8 4, .pointer none, .pointer none] 68)) = W2 at hs2 hb2 HF ⊢
      refine (c64 W2).mono ?_
      rintro e w3 ⟨rfl, hd3, hb3⟩
      have HD3 := Lib.hid hd3
      clear hd3
      have hs3 := hb3.size
      go_wp2_with fail
      refine (c64 w3).mono ?_
      rintro e w4 ⟨rfl, hd4, hb4⟩
      have HD4 := Lib.hid hd4
      clear hd4
      have hs4 := hb4.size
      obtain ⟨fl, f0, f1, f2, f3, f4, f5, f6, f7, f8, f9, ff⟩ := (HF.out.below hb3).below hb4
      go_wp2_with fail
      have hne43 : ¬ (w1.heap.size = w3.heap.size) := by omega
      have hF5 : FBlk ((w4.setCell ⟨w1.heap.size, 8, none⟩ (.pointer (some ⟨w1.heap.size + 1, 0, none⟩))).setCell ⟨w1.heap.size, 9, none⟩ (.pointer (some ⟨w3.heap.size, 0, none⟩))) w1.heap.size (.slice A' q c') (.pointer (some ⟨w1.heap.size + 1, 0, none⟩)) (.pointer (some ⟨w3.heap.size, 0, none⟩)) :=
        ⟨by simpa using fl, by simp [go_sem, f0], by simp [go_sem, f1], by simp [go_sem, f2], by simp [go_sem, f3], by simp [go_sem, f4], by simp [go_sem, f5], by simp [go_sem, f6], by simp [go_sem, f7], by simp [go_sem, f8, World.cell?_setCell_same], by simp [go_sem, f9, World.cell?_setCell_same], fun o => by simp [go_sem, ff]⟩
      have hD5 : DL ((w4.setCell ⟨w1.heap.size, 8, none⟩ (.pointer (some ⟨w1.heap.size + 1, 0, none⟩))).setCell ⟨w1.heap.size, 9, none⟩ (.pointer (some ⟨w3.heap.size, 0, none⟩))) w3.heap.size [] [] := by
        obtain ⟨d1, d2, d3, d4, d5, _, _, _⟩ := HD4.out
        have hn : ∀ o i : Nat, ¬((⟨w3.heap.size, o, none⟩ : Addr) = ⟨w1.heap.size, i, none⟩) := fun o i => addr_ne (Ne.symm hne43)
        exact ⟨by simpa using d1, by simp [go_sem, hn, hne43]; exact d2, by simp [go_sem, hn, hne43]; exact d3, by simp [go_sem, hn, hne43]; exact d4, fun o => by simp [go_sem]; exact d5 o, fun i b h => by simp at h, fun i j b h => by simp at h, rfl⟩
      have hD5a : DL ((w4.setCell ⟨w1.heap.size, 8, none⟩ (.pointer (some ⟨w1.heap.size + 1, 0, none⟩))).setCell ⟨w1.heap.size, 9, none⟩ (.pointer (some ⟨w3.heap.size, 0, none⟩))) W2.heap.size [] [] :=
        ((HD3.out.below hb4).set _ _ _ (by omega) (fun b h => (nomatch h))).set _ _ _ (by omega) (fun b h => (nomatch h))
      have hb24 : Below wr.heap.size wr w4 := (hb2.trans (hb3.mono (by omega))).trans (hb4.mono (by omega))
      have hb5 : Below wr.heap.size wr ((w4.setCell ⟨w1.heap.size, 8, none⟩ (.pointer (some ⟨w1.heap.size + 1, 0, none⟩))).setCell ⟨w1.heap.size, 9, none⟩ (.pointer (some ⟨w3.heap.size, 0, none⟩))) := (hb24.setCell (p := ⟨w1.heap.size, 8, none⟩) hs1 _).setCell (p := ⟨w1.heap.size, 9, none⟩) hs1 _
      generalize ((w4.setCell ⟨w1.heap.size, 8, none⟩ (.pointer (some ⟨w1.heap.size + 1, 0, none⟩))).setCell ⟨w1.heap.size, 9, none⟩ (.pointer (some ⟨w3.heap.size, 0, none⟩))) = W5 at hF5 hD5 hD5a hb5 ⊢
      have HF5 := Lib.hid hF5
      have HD5 := Lib.hid hD5
      have HD5a := Lib.hid hD5a
      have hL13 : W2.heap.size < w3.heap.size := HD3.out.lt
      have hL15 : W2.heap.size < W5.heap.size := hD5a.lt
      clear hD5a
      have HDd : Hid (DL W5.drew w3.heap.size [] []) := Lib.hid (hD5.below (Below.drew (Below.refl _ _)))
      have HC5 := Lib.hid ((HCO.out.below hb5))
      obtain ⟨rs5, hrl5, hro5, _⟩ := HC5.out.col
      rcases hro5 with h | ⟨gA, rfl, hgA, hcA⟩
      · rw [List.map_eq_nil_iff.1 h] at hrl5
        rw [List.length_map] at hrl5
        have := HN.out
        simp at hrl5
        omega
      obtain ⟨r5, hr5⟩ : ∃ r5, rs5[0]? = some r5 := ⟨_, List.getElem?_eq_getElem (by rw [hrl5, List.length_map]; have := HN.out; omega)⟩
      have ea := hcA 0 [Value.slice r5.1 1 r5.2] (by rw [List.getElem?_map, hr5]; rfl) 0 _ rfl
      simp only [Nat.zero_mul, Nat.zero_add] at ea
      obtain ⟨fl5, f50, f51, f52, f53, f54, f55, f56, f57, f58, f59, ff5⟩ := hF5
      clear hcA hr5 hD5 f0 f1 f2 f3 f4 f5 f6 f7 f8 f9 ff
      go_region_with (go_at_call 65; refine (c65 w3.heap.size [] [] _ _ W5.drew (by simp) HDd.out).mono ?_; rintro e w6 ⟨rfl, hw6⟩; have hb6 : Below wr.heap.size wr w6 := (by rw [hw6]; exact pushed_below (Below.drew hb5) (by omega) (show wr.heap.size ≤ w3.heap.size by omega) hb5.size); have HF6 : FBlk w6 w1.heap.size (.slice (some ⟨gA, 0, none⟩) q c') (.pointer (some ⟨w1.heap.size + 1, 0, none⟩)) (.pointer (some ⟨w3.heap.size, 0, none⟩)) := (by rw [hw6]; exact FBlk.pushed (HF5.out.below (Below.drew (Below.refl _ _))) hne43 hne43); have HPL6 := Lib.hid (after65 HD5a.out HDd.out (by omega) hw6); clear hw6; obtain ⟨fl6, f60, f61, f62, f63, f64, f65, f66, f67, f68, f69, ff6⟩ := HF6)
      all_goals
        obtain ⟨zl, z0, z1, z2, z3, z4, z5, z6, z7, z8, z9, zf⟩ : Z64 w6 (w.heap.size + 1) := (HZ.out.below (by rw [hsA]; exact hb)).below hb6
      all_goals
        have hb6w : Below w.heap.size w w6 := hbf.trans (hb6.mono hbf.size)
        have HC6 := HCO.out.below hb6
      all_goals go_wp2_with fail
      all_goals
        obtain ⟨⟨bx, vx, hbx, hdx⟩, hdy⟩ := HPL6.out
        have hs5 := hb5.size
        have hw5 : w.heap.size + 2 ≤ wr.heap.size := by omega
        refine bodyPost_ret (v := .agg #[.string ⟨#[]⟩, .float .f64 0, .string ⟨#[]⟩, .slice none 0 0, .slice (some ⟨gA, 0, none⟩) q c', .bool false, .string ⟨#[]⟩, .int .u8 4, .pointer (some ⟨w1.heap.size + 1, 0, none⟩), .pointer (some ⟨w3.heap.size, 0, none⟩)]) (by first | (simp [results, Tryz.results66, go_sem]; done) | (simp [results, Tryz.results66, go_sem, *]; done)) rfl ⟨_, c', w1.heap.size + 1, w3.heap.size, rfl, ?_, ?_, ?_, by omega, by omega, ?_⟩
        · refine HC6.step (by omega) (by simp) (fun b o h1 h2 => ?_)
          have hne' : ¬ (w.heap.size + 1 = b) := by omega
          have hne := fun i : Nat => addr_ne (o := o) (i := i) (Ne.symm hne')
          simp [go_sem, hne, hne']
        · rw [← hs2]
          refine hdy.keep (by simp) (fun b o hm => ?_) (fun b o hm => by simp [go_sem])
          rcases hm with rfl | hm
          · have hne' : ¬ (w.heap.size + 1 = W2.heap.size) := by omega
            have hne := fun i : Nat => addr_ne (o := o) (i := i) (Ne.symm hne')
            simp [go_sem, hne, hne']
          · cases hm
        · refine ⟨bx, vx, by omega, hdx.keep (by simp) (fun b o hm => ?_) (fun b o hm => by simp [go_sem])⟩
          have hne' : ¬ (w.heap.size + 1 = b) := by
            rcases hm with rfl | hm
            · omega
            · simp at hm
              omega
          have hne := fun i : Nat => addr_ne (o := o) (i := i) (Ne.symm hne')
          simp [go_sem, hne, hne']
        · exact (by repeat (first | (with_reducible exact Below.refl _ _) | (with_reducible assumption) | ((with_reducible refine Below.alloc ?_ ?_ _); rotate_left; focus (first | exact Nat.le_refl _ | omega | (simp; done) | (simp; omega))) | ((with_reducible refine Below.setCell ?_ ?_ _); rotate_left; focus (first | exact Nat.le_refl _ | omega | (simp; done) | (simp; omega))) | (with_reducible refine Below.drew ?_) | (with_reducible refine below_drewN ?_ _) | ((with_reducible refine below_via (by assumption) ?_ ?_); focus (first | exact Nat.le_refl _ | omega | (simp; done) | (simp; omega)))))
end Go.Proofs.YtkhgaenffnoimaaGreatDoor
