/- Columns: a slice of rows of one element each; the laws' lists of numbers. -/
import Derived.Test.YtkhgaenffnoimaaGreatDoorI1
import Derived.Test.YtkhgaenffnoimaaGreatDoorF0
set_option linter.unusedSimpArgs false
set_option linter.unusedVariables false
namespace Go.Proofs.YtkhgaenffnoimaaGreatDoor
open Go.RowKit
attribute [local go_sem] run_store_float
/-- A slice at A of rows, each a slice of the one element xs[j]. -/
def Col (w : World) (A : Option Addr) (sz : Nat) (xs : List (List Value)) : Prop :=
  ∃ rs : List (Option Addr × Nat), rs.length = xs.length ∧ CRow w A 1 (rs.map fun r => [Value.slice r.1 1 r.2]) ∧ ∀ (j : Nat) (r : Option Addr × Nat) (x : List Value), rs[j]? = some r → xs[j]? = some x → CRow w r.1 sz [x]
theorem Col.below {w w1 : World} {A : Option Addr} {sz : Nat} {xs : List (List Value)} (h : Col w A sz xs) (hb : Below w.heap.size w w1) : Col w1 A sz xs := by
  obtain ⟨rs, h1, h2, h3⟩ := h
  exact ⟨rs, h1, h2.below hb, fun j r x hr hx => (h3 j r x hr hx).below hb⟩
/-- As Col, in any later world that agrees on the blocks from B on. -/
def ColB (B : Nat) (w : World) (A : Option Addr) (sz : Nat) (xs : List (List Value)) : Prop :=
  ∀ w' : World, w.heap.size ≤ w'.heap.size → (∀ b o, B ≤ b → b < w.heap.size → w'.cell? ⟨b, o, none⟩ = w.cell? ⟨b, o, none⟩) → Col w' A sz xs
theorem ColB.col {B : Nat} {w : World} {A : Option Addr} {sz : Nat} {xs : List (List Value)} (h : ColB B w A sz xs) : Col w A sz xs := h w (Nat.le_refl _) fun _ _ _ _ => rfl
theorem ColB.step {B B1 : Nat} {w w1 : World} {A : Option Addr} {sz : Nat} {xs : List (List Value)} (h : ColB B w A sz xs) (hB : B1 ≤ B) (hs : w.heap.size ≤ w1.heap.size) (hk : ∀ b o, B ≤ b → b < w.heap.size → w1.cell? ⟨b, o, none⟩ = w.cell? ⟨b, o, none⟩) : ColB B1 w1 A sz xs :=
  fun w' hs' hk' => h w' (Nat.le_trans hs hs') fun b o h1 h2 => (hk' b o (by omega) (by omega)).trans (hk b o h1 h2)
theorem ColB.below {B : Nat} {w w1 : World} {A : Option Addr} {sz : Nat} {xs : List (List Value)} (h : ColB B w A sz xs) (hb : Below w.heap.size w w1) : ColB B w1 A sz xs :=
  h.step (Nat.le_refl _) hb.size fun b o _ h2 => hb.cell (p := ⟨b, o, none⟩) h2
theorem CRow.take {w : World} {A : Option Addr} {sz : Nat} {xs : List (List Value)} (h : CRow w A sz xs) (n : Nat) : CRow w A sz (xs.take n) := by
  rcases h with h | ⟨g, rfl, hg, hc⟩
  · exact .inl (by rw [h]; simp)
  · exact .inr ⟨g, rfl, hg, fun j c hj => hc j c (by
      have hlt := (List.getElem?_eq_some_iff.1 hj).1
      rw [List.length_take] at hlt
      rw [List.getElem?_take_of_lt (by omega)] at hj
      exact hj)⟩
/-- The cells of a number of the reference; of an int. -/
def nI (k : Int) : List Value := [.int .i64 k]
def vN (k : Int) : V := ⟨1, k, 1, ⟨#[]⟩⟩
def iN (k : Int) : I := ⟨1, floatOfInt FloatKind.f64 k, ⟨#[]⟩⟩
theorem under22 : Tryz.prog.underlying 22 = some (.slice 3) := by kernel_rfl
theorem info3 : (Tryz.prog.info? 3).map (fun i => (i.zero, i.size, i.bytes)) = some (some (.int .i64 0), 1, 8) := by kernel_rfl
theorem under73 : Tryz.prog.underlying 73 = some (.slice 75) := by kernel_rfl
theorem info75 : (Tryz.prog.info? 75).map (fun i => (i.zero, i.size, i.bytes)) = some (some (.agg #[.int .i64 0, .int .i64 0, .string ⟨#[]⟩]), 3, 32) := by kernel_rfl
theorem under30 : Tryz.prog.underlying 30 = some (.slice 43) := by kernel_rfl
theorem info43 : (Tryz.prog.info? 43).map (fun i => (i.zero, i.size, i.bytes)) = some (some (.slice none 0 0), 1, 24) := by kernel_rfl
set_option maxRecDepth 100000 in
theorem c15_0 (w : World) : Calls Tryz.prog 15 #[.int .i64 0, .int .i64 6] w (fun e w' => e = .returned (.int .i64 0) ∧ w' = w) := by
  go_enter Tryz.func15, Tryz.ntmps15
  go_wp2_with fail
  go_ret
  exact ⟨rfl, rfl⟩
set_option maxRecDepth 100000 in
theorem c15_1 (w : World) : Calls Tryz.prog 15 #[.int .i64 1, .int .i64 6] w (fun e w' => e = .returned (.int .i64 1) ∧ w' = w) := by
  go_enter Tryz.func15, Tryz.ntmps15
  go_wp2_with fail
  go_ret
  exact ⟨rfl, rfl⟩
set_option maxRecDepth 100000 in
set_option maxHeartbeats 1000000 in
theorem c14 (n : Int) (w : World) (h0 : -99999999999 ≤ n) (h1 : n ≤ 99999999999) : Calls Tryz.prog 14 #[.int .i64 n] w (Ret w (.agg #[.int .i64 1, .int .i64 n, .int .i64 1, .string ⟨#[]⟩, .slice none 0 0])) := by
  go_enter Tryz.func14, Tryz.ntmps14
  go_wp2_with fail
  exact bodyPost_ret (v := .agg #[.int .i64 1, .int .i64 n, .int .i64 1, .string ⟨#[]⟩, .slice none 0 0]) (by first | (simp [results, Tryz.results14, go_sem, hc1, hz1]; done) | (simp [results, Tryz.results14, go_sem]; done) | (simp [results, Tryz.results14, go_sem, *]; done)) rfl (ret_mk (by repeat (first | (with_reducible exact Below.refl _ _) | (with_reducible assumption) | ((with_reducible refine Below.alloc ?_ ?_ _); rotate_left; focus (first | exact Nat.le_refl _ | omega | (simp; done) | (simp; omega))) | ((with_reducible refine Below.setCell ?_ ?_ _); rotate_left; focus (first | exact Nat.le_refl _ | omega | (simp; done) | (simp; omega))) | (with_reducible refine Below.drew ?_) | (with_reducible refine below_drewN ?_ _) | ((with_reducible refine below_via (by assumption) ?_ ?_); focus (first | exact Nat.le_refl _ | omega | (simp; done) | (simp; omega))))))
set_option maxRecDepth 100000 in
set_option maxHeartbeats 1000000 in
theorem c68 (A : Option Addr) (n c : Nat) (w : World) : Calls Tryz.prog 68 #[.slice A n c] w (Ret w (.agg #[.int .i64 5, .int .i64 0, .int .i64 0, .string ⟨#[]⟩, .slice A n c])) := by
  go_enter Tryz.func68, Tryz.ntmps68
  go_wp2_with fail
  exact bodyPost_ret (v := .agg #[.int .i64 5, .int .i64 0, .int .i64 0, .string ⟨#[]⟩, .slice A n c]) (by first | (simp [results, Tryz.results68, go_sem, hc1, hz1]; done) | (simp [results, Tryz.results68, go_sem]; done) | (simp [results, Tryz.results68, go_sem, *]; done)) rfl (ret_mk (by repeat (first | (with_reducible exact Below.refl _ _) | (with_reducible assumption) | ((with_reducible refine Below.alloc ?_ ?_ _); rotate_left; focus (first | exact Nat.le_refl _ | omega | (simp; done) | (simp; omega))) | ((with_reducible refine Below.setCell ?_ ?_ _); rotate_left; focus (first | exact Nat.le_refl _ | omega | (simp; done) | (simp; omega))) | (with_reducible refine Below.drew ?_) | (with_reducible refine below_drewN ?_ _) | ((with_reducible refine below_via (by assumption) ?_ ?_); focus (first | exact Nat.le_refl _ | omega | (simp; done) | (simp; omega))))))
set_option maxRecDepth 100000 in
set_option maxHeartbeats 1000000 in
theorem c67 (n : Int) (w : World) (h0 : -99999999999 ≤ n) (h1 : n ≤ 99999999999) : Calls Tryz.prog 67 #[.agg #[.int .i64 1, .int .i64 n, .string ⟨#[]⟩]] w (Ret w (.agg #[.int .i64 1, .int .i64 n, .int .i64 1, .string ⟨#[]⟩, .slice none 0 0])) := by
  go_enter Tryz.func67, Tryz.ntmps67
  go_wp2_with (first
    | (go_at_call 15; refine (c15_1 _).mono ?_; rintro e w1 ⟨rfl, rfl⟩)
    | (go_at_call 14; refine (c14 n _ h0 h1).mono ?_; rintro e w1 ⟨rfl, hb1⟩; obtain ⟨hc1, hf1, hz1⟩ := bcell hb1; have hs1 : w.heap.size < w1.heap.size := hz1 _ (by simp; omega); have hs2 : w.heap.size + 1 < w1.heap.size := hz1 _ (by simp)))
  (refine bodyPost_ret (v := .agg #[.int .i64 1, .int .i64 n, .int .i64 1, .string ⟨#[]⟩, .slice none 0 0]) ?_ rfl ?_; (focus (first | (simp [results, Tryz.results67, go_sem, hc1, hz1]; done) | (simp [results, Tryz.results67, go_sem]; done) | (simp [results, Tryz.results67, go_sem, *]; done))); exact ret_mk (by repeat (first | (with_reducible exact Below.refl _ _) | (with_reducible assumption) | ((with_reducible refine Below.alloc ?_ ?_ _); rotate_left; focus (first | exact Nat.le_refl _ | omega | (simp; done) | (simp; omega))) | ((with_reducible refine Below.setCell ?_ ?_ _); rotate_left; focus (first | exact Nat.le_refl _ | omega | (simp; done) | (simp; omega))) | (with_reducible refine Below.drew ?_) | (with_reducible refine below_drewN ?_ _) | ((with_reducible refine below_via (by assumption) ?_ ?_); focus (first | exact Nat.le_refl _ | omega | (simp; done) | (simp; omega))))))
/-- append of one element of any size: as app1, with a word on the other blocks. -/
theorem app1k {ops : Array Oper} {rest : List Oper} {o : Oper} {a : Act} {Q : Exit → Act → World → Prop} {w0 W : World} (hgd : o.guard = none) (s x : Operand) (t e : TypeId) (z : Value) (sz bytes : Nat)
    (ho : o.op = .call { callee := .builtin .append, args := #[s, x], argTypes := #[t, t] })
    (ht : Tryz.prog.underlying t = some (.slice e)) (hinfo : (Tryz.prog.info? e).map (fun i => (i.zero, i.size, i.bytes)) = some (some z, sz, bytes)) (hz : z.cells.size = sz) (hs0 : 0 < sz) (hb0 : 0 < bytes)
    (v : Value) (xs : List (List Value)) (ys : List Value) (hs : a.eval s = v) (hx : a.eval x = .slice (some ⟨W.heap.size, 0, none⟩) 1 1) (hys : ys.length = sz) (h1 : ∀ u ∈ ys, u.oneCell' = true)
    (HO : Own w0 W e sz v xs) (HB : Below w0.heap.size w0 W) (hl : (xs.length + 1) * bytes ≤ 140737488355328)
    (h : ∀ v1 w1, Own w0 w1 e sz v1 (xs ++ [ys]) → Below w0.heap.size w0 w1 → (∀ k, k < W.heap.size → v.ownBlock ≠ some k → w1.heap[k]? = W.heap[k]? ∧ v1.ownBlock ≠ some k) → W.heap.size ≤ w1.heap.size → wpList Tryz.prog ops Q rest (a.put o.dst v1) w1) :
    wpList Tryz.prog ops Q (o :: rest) a (W.alloc (.cells ys.toArray e)) := by
  obtain ⟨i0, hi, hzz⟩ := Option.map_eq_some_iff.1 hinfo
  simp only [Prod.mk.injEq] at hzz
  obtain ⟨hz0, hz1, hz2⟩ := hzz
  have hlen : xs.length + 1 ≤ 140737488355328 := Nat.le_trans (Nat.le_mul_of_pos_right _ hb0) hl
  refine wpList_append_own_at (W.alloc (.cells ys.toArray e)) hgd s x t ho w0.heap.size e i0 z sz bytes ht hi hz0 hz1 hz2 hz hs0 v xs.length xs.flatten hs (HO.1.alloc _) ⟨W.heap.size, 0, none⟩ 1 1 ys hx (by rw [hys]; simp)
    (fun j u hu => by rw [addr0, cell_of_row _ W.heap.size j ys.toArray e (0, 0) (heap_alloc_new W (.cells ys.toArray e))]; simpa using hu) h1 (by simp only [maxLen]; omega) hl (by have := HB.size; simp; omega) ?_
  intro v1 w1 hown hg _ hob
  have hsz := hg.size
  simp at hsz
  refine h v1 w1 ⟨?_, ?_⟩ ((HB.alloc HB.size _).grown hg (by have := HB.size; simp; omega) fun k hk => (HO.1.lt k hk).1) (fun k hk hne => ⟨?_, ?_⟩) (by omega)
  · simpa using hown
  · intro c hc
    rcases List.mem_append.1 hc with hc | hc
    · exact HO.2 c hc
    · simp at hc
      rw [hc, hys]
  · rw [hg.block k (by simp; omega) (fun e => hne e.symm)]
    exact Below.heap_alloc W _ k hk
  · rcases hob with e | e
    · rw [e]; exact hne
    · rw [e]
      intro e2
      have := Option.some.inj e2
      simp at this
      omega
/-- The call's own slice v of rows, each the one element xs[j] in a block of its own. -/
def CB (w0 W : World) (e : TypeId) (v : Value) (xs : List (List Value)) : Prop :=
  ∃ rs : List (Nat × Nat), rs.length = xs.length ∧ Own w0 W e 1 v (rs.map fun r => [Value.slice (some ⟨r.1, 0, none⟩) 1 r.2]) ∧
    ∀ (j : Nat) (r : Nat × Nat) (x : List Value), rs[j]? = some r → xs[j]? = some x → w0.heap.size ≤ r.1 ∧ r.1 < W.heap.size ∧ v.ownBlock ≠ some r.1 ∧ ∀ (i : Nat) (u : Value), x[i]? = some u → W.cell? ⟨r.1, i, none⟩ = some u
theorem cb_nil (w0 W : World) (e : TypeId) : CB w0 W e (.slice none 0 0) [] := ⟨[], rfl, own_nil _ _ _ _, fun j r x h => by simp at h⟩
theorem CB.below {w0 W W1 : World} {e : TypeId} {v : Value} {xs : List (List Value)} (h : CB w0 W e v xs) (hb : Below W.heap.size W W1) : CB w0 W1 e v xs := by
  obtain ⟨rs, h1, h2, h3⟩ := h
  refine ⟨rs, h1, h2.below hb, fun j r x hr hx => ?_⟩
  obtain ⟨a0, a, b, c⟩ := h3 j r x hr hx
  exact ⟨a0, Nat.lt_of_lt_of_le a hb.size, b, fun i u hu => (hb.cell (p := ⟨r.1, i, none⟩) a).trans (c i u hu)⟩
theorem CB.col {w0 W : World} {e : TypeId} {v : Value} {xs : List (List Value)} (h : CB w0 W e v xs) (sz : Nat) :
    ∃ A c, v = .slice A xs.length c ∧ ColB w0.heap.size W A sz xs := by
  obtain ⟨rs, h1, h2, h3⟩ := h
  obtain ⟨A, c, rfl, hr⟩ := h2.row
  refine ⟨A, c, by rw [List.length_map, h1], fun w' hw hk => ⟨rs.map fun r => (some ⟨r.1, 0, none⟩, r.2), by rw [List.length_map, h1], ?_, fun j r x hr hx => ?_⟩⟩
  · rw [List.map_map]
    rcases hr with h | ⟨g, rfl, hg, hc⟩
    · left
      simpa using h
    · have hlt := (h2.1.lt g rfl).1
      exact .inr ⟨g, rfl, Nat.lt_of_lt_of_le hg hw, fun j c hj i u hu => (hk g _ hlt hg).trans (hc j c hj i u hu)⟩
  · rw [List.getElem?_map] at hr
    obtain ⟨r', hr', rfl⟩ := Option.map_eq_some_iff.1 hr
    obtain ⟨a0, a, b, c⟩ := h3 j r' x hr' hx
    refine .inr ⟨r'.1, rfl, Nat.lt_of_lt_of_le a hw, fun j' c' hj i u hu => ?_⟩
    match j', hj with
    | 0, hj =>
      simp at hj
      subst hj
      simpa using (hk _ _ a0 a).trans (c i u hu)
/-- append of one row: the row's block g holds x. -/
theorem appRow {ops : Array Oper} {rest : List Oper} {o : Oper} {a : Act} {Q : Exit → Act → World → Prop} {w0 W : World} (t e : TypeId) (ht : Tryz.prog.underlying t = some (.slice e)) (hinfo : (Tryz.prog.info? e).map (fun i => (i.zero, i.size, i.bytes)) = some (some (.slice none 0 0), 1, 24))
    (v : Value) (xs : List (List Value)) (x : List Value) (g c : Nat) (s y : Operand) (hgd : o.guard = none)
    (ho : o.op = .call { callee := .builtin .append, args := #[s, y], argTypes := #[t, t] })
    (hs : a.eval s = v) (hy : a.eval y = .slice (some ⟨W.heap.size, 0, none⟩) 1 1)
    (HC : CB w0 W e v xs) (HB : Below w0.heap.size w0 W) (hl : xs.length ≤ 100000) (hg0 : w0.heap.size ≤ g) (hg : g < W.heap.size) (hne : v.ownBlock ≠ some g) (hc : ∀ (i : Nat) (u : Value), x[i]? = some u → W.cell? ⟨g, i, none⟩ = some u)
    (h : ∀ v1 w1, CB w0 w1 e v1 (xs ++ [x]) → Below w0.heap.size w0 w1 → (∀ k, k < W.heap.size → v.ownBlock ≠ some k → w1.heap[k]? = W.heap[k]? ∧ v1.ownBlock ≠ some k) → W.heap.size ≤ w1.heap.size → wpList Tryz.prog ops Q rest (a.put o.dst v1) w1) :
    wpList Tryz.prog ops Q (o :: rest) a (W.alloc (.cells #[.slice (some ⟨g, 0, none⟩) 1 c] e)) := by
  obtain ⟨rs, h1, h2, h3⟩ := HC
  refine app1k (ys := [.slice (some ⟨g, 0, none⟩) 1 c]) hgd s y t e _ 1 24 ho ht hinfo rfl (by decide) (by decide) v _ hs hy rfl (by intro u hu; simp only [List.mem_cons, List.not_mem_nil, or_false] at hu; subst hu; rfl) h2 HB (by rw [List.length_map]; omega) ?_
  intro v1 w1 ho1 hb1 hk hsz
  refine h v1 w1 ⟨rs ++ [(g, c)], by simp [h1], by simpa using ho1, fun j r z hr hz => ?_⟩ hb1 hk hsz
  have key : ∀ (r : Nat) (z : List Value), w0.heap.size ≤ r → r < W.heap.size → v.ownBlock ≠ some r → (∀ (i : Nat) (u : Value), z[i]? = some u → W.cell? ⟨r, i, none⟩ = some u) → w0.heap.size ≤ r ∧ r < w1.heap.size ∧ v1.ownBlock ≠ some r ∧ ∀ (i : Nat) (u : Value), z[i]? = some u → w1.cell? ⟨r, i, none⟩ = some u := by
    intro r z hr0 hr hn hz
    obtain ⟨k1, k2⟩ := hk r hr hn
    exact ⟨hr0, by omega, k2, fun i u hu => (World.cell?_of_block (a := ⟨r, i, none⟩) k1).trans (hz i u hu)⟩
  by_cases hj : j < rs.length
  · rw [List.getElem?_append_left hj] at hr
    rw [List.getElem?_append_left (by omega)] at hz
    obtain ⟨a0, a1, a2, a3⟩ := h3 j r z hr hz
    exact key r.1 z a0 a1 a2 a3
  · have hjl := (List.getElem?_eq_some_iff.1 hr).1
    simp at hjl
    have hje : j = rs.length := by omega
    subst hje
    rw [List.getElem?_append_right (Nat.le_refl _)] at hr
    rw [List.getElem?_append_right (by omega)] at hz
    simp at hr
    simp [h1] at hz
    subst hr hz
    exact key g x hg0 hg hne hc
end Go.Proofs.YtkhgaenffnoimaaGreatDoor
