/- COUNT of one matrix: the closure. -/
import Derived.Test.YtkhgaenffnoimaaGreatDoorMC
import Derived.Laws.EntriesVeiled
set_option linter.unusedSimpArgs false
set_option linter.unusedVariables false
namespace Go.Proofs.YtkhgaenffnoimaaGreatDoor
open Go.RowKit FL
attribute [local go_sem] run_store_float as64
/-- Of what was there only block b may have turned. -/
structure But (b : Nat) (w w' : World) : Prop where
  os : w'.os = w.os
  tape : w'.tape = w.tape
  output : w'.output = w.output
  size : w.heap.size ≤ w'.heap.size
  block : ∀ k, k < w.heap.size → k ≠ b → w'.heap[k]? = w.heap[k]?
theorem But.refl (b : Nat) (w : World) : But b w w := ⟨rfl, rfl, rfl, Nat.le_refl _, fun _ _ _ => rfl⟩
theorem But.trans {b : Nat} {w w1 w2 : World} (h : But b w w1) (k : But b w1 w2) : But b w w2 :=
  ⟨k.os.trans h.os, k.tape.trans h.tape, k.output.trans h.output, Nat.le_trans h.size k.size, fun i hi hn => (k.block i (Nat.lt_of_lt_of_le hi h.size) hn).trans (h.block i hi hn)⟩
theorem But.of {b : Nat} {w w' : World} (h : Below w.heap.size w w') : But b w w' := ⟨h.os, h.tape, h.output, h.size, fun k hk _ => h.block k hk⟩
theorem But.set {b : Nat} {w w' : World} (h : But b w w') (o : Nat) (u : Value) : But b w (w'.setCell ⟨b, o, none⟩ u) :=
  h.trans ⟨rfl, rfl, rfl, by simp [World.setCell], fun k hk hn => Below.heap_setCell _ _ _ _ hn⟩
theorem But.alloc {b : Nat} {w w' : World} (h : But b w w') (o : Obj) : But b w (w'.alloc o) := h.trans (But.of ((Below.refl _ _).alloc (Nat.le_refl _) o))
theorem But.cell {b : Nat} {w w' : World} (h : But b w w') {g o : Nat} (hg : g < w.heap.size) (hn : g ≠ b) : w'.cell? ⟨g, o, none⟩ = w.cell? ⟨g, o, none⟩ := World.cell?_of_block (w := w) (a := ⟨g, o, none⟩) (h.block g hg hn)
theorem But.frozen {b : Nat} {w w' : World} (h : But b w w') {g o : Nat} (hg : g < w.heap.size) (hn : g ≠ b) : w'.frozen? ⟨g, o, none⟩ = w.frozen? ⟨g, o, none⟩ := World.frozen?_of_block (w := w) (a := ⟨g, o, none⟩) (h.block g hg hn)
theorem But.below {b B : Nat} {w w' : World} (h : But b w w') (hB : B ≤ b) (hw : B ≤ w.heap.size) : Below B w w' := ⟨h.os, h.tape, h.output, h.size, fun k hk => h.block k (by omega) (by omega)⟩
/-- Block b holds a count, free to be written. -/
structure Box (w : World) (b : Nat) (v : Value) : Prop where
  lt : b < w.heap.size
  cell : w.cell? ⟨b, 0, none⟩ = some v
  fr : ∀ o, w.frozen? ⟨b, o, none⟩ = false
theorem Box.below {w w1 : World} {b : Nat} {v : Value} (h : Box w b v) (hb : Below w.heap.size w w1) : Box w1 b v :=
  ⟨Nat.lt_of_lt_of_le h.lt hb.size, (hb.cell (p := ⟨b, 0, none⟩) h.lt).trans h.cell, fun o => (hb.frozen (p := ⟨b, o, none⟩) h.lt).trans (h.fr o)⟩
theorem Box.but {w w1 : World} {b c : Nat} {v : Value} (h : Box w b v) (hb : But c w w1) (hn : b ≠ c) : Box w1 b v :=
  ⟨Nat.lt_of_lt_of_le h.lt hb.size, (hb.cell h.lt hn).trans h.cell, fun o => (hb.frozen h.lt hn).trans (h.fr o)⟩
theorem Box.set {w : World} {b : Nat} {v : Value} (h : Box w b v) (u : Value) : Box (w.setCell ⟨b, 0, none⟩ u) b u :=
  ⟨by simpa using h.lt, World.cell?_setCell_same w ⟨b, 0, none⟩ _ h.cell, fun o => by rw [World.frozen?_setCell]; exact h.fr o⟩
set_option maxRecDepth 100000 in
set_option maxHeartbeats 1000000 in
theorem c69N (x b k : Nat) (p : Value) (w : World) (hk : k ≤ 1000) (hb : Box w b (.int .i64 k)) :
    Calls Tryz.prog 69 #[.agg #[.string ⟨#[]⟩, .float .f64 x, .string ⟨#[]⟩, .slice none 0 0, .slice none 0 0, .bool false, .string ⟨#[]⟩, .int .u8 1, .pointer none, .pointer none], .bool true, .pointer (some ⟨b, 0, none⟩), p] w (fun e w' => e = .returned (.tuple #[]) ∧ But b w w' ∧ Box w' b (.int .i64 ((k : Int) + 1))) := by
  have HB := Lib.hid hb
  obtain ⟨b0, b1, b2⟩ := hb
  have hne : ¬ (w.heap.size = b) := by omega
  go_enter Tryz.func69, Tryz.ntmps69
  go_wp2_with fail
  exact bodyPost_end (v := .tuple #[]) (by simp [results, Tryz.results69, go_sem]) rfl ⟨rfl, ((But.refl b w).set 0 (.int .i64 ((k : Int) + 1))).alloc _, (HB.out.set (.int .i64 ((k : Int) + 1))).below (by repeat (first | (with_reducible exact Below.refl _ _) | (with_reducible assumption) | ((with_reducible refine Below.alloc ?_ ?_ _); rotate_left; focus (first | exact Nat.le_refl _ | omega | (simp; done) | (simp; omega))) | ((with_reducible refine Below.setCell ?_ ?_ _); rotate_left; focus (first | exact Nat.le_refl _ | omega | (simp; done) | (simp; omega))) | (with_reducible refine Below.drew ?_) | (with_reducible refine below_drewN ?_ _) | ((with_reducible refine below_via (by assumption) ?_ ?_); focus (first | exact Nat.le_refl _ | omega | (simp; done) | (simp; omega)))))⟩
/-- The closure of COUNT. -/
def cloC (b p : Nat) : Value := .func (.func 69) #[] #[.pointer (some ⟨b, 0, none⟩), .pointer (some ⟨p, 0, none⟩)]
theorem DL.but {w w1 : World} {b L : Nat} {bs : List Nat} {vs : List Value} (h : DL w L bs vs) (hb : But b w w1) (hL : L ≠ b) (hbs : ∀ x, x ∈ bs → x ≠ b) : DL w1 L bs vs := by
  refine h.keep hb.size (fun x o hm => ?_) (fun x o hm => ?_)
  all_goals
    have hx : x < w.heap.size ∧ x ≠ b := by
      rcases hm with rfl | hm
      · exact ⟨h.lt, hL⟩
      · obtain ⟨i, hi⟩ := List.getElem?_of_mem hm
        exact ⟨(h.el i x hi).1, hbs x hm⟩
  · exact hb.cell hx.1 hx.2
  · exact hb.frozen hx.1 hx.2
set_option maxRecDepth 100000 in
set_option maxHeartbeats 1000000 in
theorem c69M (ks : List Int) (A : Option Addr) (n c L1 L2 B b p : Nat) (w : World) (hl : n ≤ 120) (h0 : 0 < n) (hlen : n = ks.length) (hkk : ∀ k, k ∈ ks → -9999 ≤ k ∧ k ≤ 9999) (hx : FM w B ks A L1 L2)
    (hb : Box w b (.int .i64 0)) (hp : Box w p (cloC b p)) (hbp : p ≠ b) :
    Calls Tryz.prog 69 #[.agg #[.string ⟨#[]⟩, .float .f64 0, .string ⟨#[]⟩, .slice none 0 0, .slice A n c, .bool false, .string ⟨#[]⟩, .int .u8 4, .pointer (some ⟨L1, 0, none⟩), .pointer (some ⟨L2, 0, none⟩)], .bool false, .pointer (some ⟨b, 0, none⟩), .pointer (some ⟨p, 0, none⟩)] w (fun e w' => e = .returned (.tuple #[]) ∧ But b w w' ∧ Box w' b (.int .i64 n)) := by
  have H72 : Hid (∀ W, Below w.heap.size w W → Calls Tryz.prog 72 #[.agg #[.string ⟨#[]⟩, .float .f64 0, .string ⟨#[]⟩, .slice none 0 0, .slice A n c, .bool false, .string ⟨#[]⟩, .int .u8 4, .pointer (some ⟨L1, 0, none⟩), .pointer (some ⟨L2, 0, none⟩)]] W (fun e w' => ∃ (A' : Option Addr) (c' : Nat), e = .returned (.slice A' n c') ∧ CRow w' A' 10 (fNs ks) ∧ (∀ g, A' = some ⟨g, 0, none⟩ → W.heap.size ≤ g) ∧ Below W.heap.size W w')) :=
    Lib.hid fun W hb => c72M ks A n c L1 L2 B W hl h0 hlen (hx.below hb)
  have HB := Lib.hid hb
  have HP := Lib.hid hp
  have HL1 := Lib.hid hx.l1
  obtain ⟨bx, vx, _, hl2⟩ := hx.l2
  have HL2 := Lib.hid hl2
  have HN := Lib.hid hlen
  have hblt := hb.lt
  have hplt := hp.lt
  clear hb hp hl2 hx hkk hlen
  go_enter Tryz.func69, Tryz.ntmps69
  go_wp2_with fail
  have hbA : Below w.heap.size w (w.alloc (.cells #[.string ⟨#[]⟩, .float .f64 0, .string ⟨#[]⟩, .slice none 0 0, .slice A n c, .bool false, .string ⟨#[]⟩, .int .u8 4, .pointer (some ⟨L1, 0, none⟩), .pointer (some ⟨L2, 0, none⟩)] 68)) := (by repeat (first | (with_reducible exact Below.refl _ _) | (with_reducible assumption) | ((with_reducible refine Below.alloc ?_ ?_ _); rotate_left; focus (first | exact Nat.le_refl _ | omega | (simp; done) | (simp; omega))) | ((with_reducible refine Below.setCell ?_ ?_ _); rotate_left; focus (first | exact Nat.le_refl _ | omega | (simp; done) | (simp; omega))) | (with_reducible refine Below.drew ?_) | (with_reducible refine below_drewN ?_ _) | ((with_reducible refine below_via (by assumption) ?_ ?_); focus (first | exact Nat.le_refl _ | omega | (simp; done) | (simp; omega)))))
  have HL1' := HL1.out.below hbA
  have HL2' := HL2.out.below hbA
  refine (c70 L1 [] [] _ HL1').mono ?_
  rintro e w1 ⟨rfl, rfl⟩
  go_wp2_with fail
  refine (c70 L2 [bx] [vx] _ HL2').mono ?_
  rintro e w1 ⟨rfl, rfl⟩
  go_wp2_with fail
  clear HL1' HL2'
  refine (H72.out _ hbA).mono ?_
  rintro e w2 ⟨A', c', rfl, hcr, hge, hb2⟩
  have hbw2 : Below w.heap.size w w2 := keepS hb2 hbA
  have HCR := Lib.hid hcr
  clear hcr hb2
  have HB2 := Lib.hid (HB.out.below hbw2)
  have HP2 := Lib.hid (HP.out.below hbw2)
  have hs2 := hbw2.size
  rcases HCR.out with h | ⟨g, rfl, hg, hc⟩
  · have := fNs_len ks
    have := HN.out
    rw [h] at *
    simp at *
    omega
  have HC := Lib.hid hc
  clear hc
  have hgb : g ≠ b := by
    have h1 := hge g rfl
    have h2 := hbA.size
    simp at h1
    omega
  clear hge
  go_wp2_with fail
  go_loopw [59] (fun i wr => ∃ q : Nat, q ≤ n ∧ i = .int .i64 q ∧ But b w2 wr ∧ Box wr b (.int .i64 q)) (fun i _ => n - (intOf i).toNat)
  case atStart => exact ⟨0, Nat.zero_le _, rfl, But.refl _ _, HB2.out⟩
  case round =>
    obtain ⟨q, hq, rfl, hbt, hbx⟩ := hrel
    have hwr := hbt.size
    have HX := Lib.hid hbx
    clear hbx
    by_cases hlt : q < n
    · obtain ⟨k, hkq⟩ : ∃ k, ks[q]? = some k := ⟨_, List.getElem?_eq_getElem (by rw [← HN.out]; exact hlt)⟩
      have hcell : ∀ (i : Nat) (u : Value), (fNc (floatOfInt FloatKind.f64 k))[i]? = some u → wr.cell? ⟨g, q * 10 + i, none⟩ = some u := fun i u hu => (hbt.cell hg hgb).trans (HC.out q _ (by unfold fNs; rw [List.getElem?_map, hkq]; rfl) i u hu)
      have e0 := hcell 0 _ rfl
      have e1 := hcell 1 _ rfl
      have e2 := hcell 2 _ rfl
      have e3 := hcell 3 _ rfl
      have e4 := hcell 4 _ rfl
      have e5 := hcell 5 _ rfl
      have e6 := hcell 6 _ rfl
      have e7 := hcell 7 _ rfl
      have e8 := hcell 8 _ rfl
      have e9 := hcell 9 _ rfl
      simp only [Nat.add_zero] at e0
      clear hcell
      have hgr : g < wr.heap.size := by omega
      have hpr : p < wr.heap.size := by omega
      have ep : wr.cell? ⟨p, 0, none⟩ = some (.func (.func 69) #[] #[.pointer (some ⟨b, 0, none⟩), .pointer (some ⟨p, 0, none⟩)]) := (HP2.out.but hbt hbp).cell
      clear hkq
      go_wp2_with fail
      have HXa := HX.out.below (w1 := wr.alloc (.cells #[.string ⟨#[]⟩, .float .f64 (floatOfInt FloatKind.f64 k), .string ⟨#[]⟩, .slice none 0 0, .slice none 0 0, .bool false, .string ⟨#[]⟩, .int .u8 1, .pointer none, .pointer none] 68)) (by repeat (first | (with_reducible exact Below.refl _ _) | (with_reducible assumption) | ((with_reducible refine Below.alloc ?_ ?_ _); rotate_left; focus (first | exact Nat.le_refl _ | omega | (simp; done) | (simp; omega))) | ((with_reducible refine Below.setCell ?_ ?_ _); rotate_left; focus (first | exact Nat.le_refl _ | omega | (simp; done) | (simp; omega))) | (with_reducible refine Below.drew ?_) | (with_reducible refine below_drewN ?_ _) | ((with_reducible refine below_via (by assumption) ?_ ?_); focus (first | exact Nat.le_refl _ | omega | (simp; done) | (simp; omega)))))
      refine (c69N (floatOfInt FloatKind.f64 k) b q _ _ (by omega) HXa).mono ?_
      rintro e w3 ⟨rfl, hb3, hx3⟩
      have hbt3 : But b w2 w3 := (hbt.alloc _).trans hb3
      have HX3 := Lib.hid hx3
      clear hx3 hb3 HXa
      go_wp2_with fail
      exact ⟨⟨q + 1, by omega, by simp, hbt3, by simpa using HX3.out⟩, by simp only [intOf]; omega⟩
    · have hqn : q = n := by omega
      subst hqn
      go_wp2_with fail
      exact bodyPost_end (v := .tuple #[]) (by simp [results, Tryz.results69, go_sem]) rfl ⟨rfl, (But.of hbw2).trans hbt, HX.out⟩
end Go.Proofs.YtkhgaenffnoimaaGreatDoor
