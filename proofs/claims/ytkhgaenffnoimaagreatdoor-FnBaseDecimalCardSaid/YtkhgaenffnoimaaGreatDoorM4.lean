/- of, all: a table of numbers as a matrix of the implementation. -/
import Derived.Test.YtkhgaenffnoimaaGreatDoorM3
import Derived.Deep.RegionLaw
set_option linter.unusedSimpArgs false
set_option linter.unusedVariables false
namespace Go.Proofs.YtkhgaenffnoimaaGreatDoor
open Go.RowKit
attribute [local go_sem] run_store_float
/-- As Own, from block B on. -/
def OwnB (B : Nat) (W : World) (e : TypeId) (sz : Nat) (v : Value) (xs : List (List Value)) : Prop :=
  W.ownsRow B e sz v xs.length xs.flatten ∧ ∀ c, c ∈ xs → c.length = sz
theorem ownB_nil (B : Nat) (W : World) (e : TypeId) (sz : Nat) : OwnB B W e sz (.slice none 0 0) [] := ⟨World.ownsRow_nil _ _ _ _, fun _ h => (nomatch h)⟩
theorem OwnB.below {B : Nat} {W W1 : World} {e : TypeId} {sz : Nat} {v : Value} {xs : List (List Value)} (h : OwnB B W e sz v xs) (hb : Below W.heap.size W W1) : OwnB B W1 e sz v xs := by
  refine ⟨⟨h.1.1, ?_⟩, h.2⟩
  rcases h.1.2 with hn | ⟨g, cap, cur, rfl, hbb, hg, rest⟩
  · exact .inl hn
  · exact .inr ⟨g, cap, cur, rfl, hbb, (hb.block g (Array.getElem?_eq_some_iff.1 hg).1).trans hg, rest⟩
theorem OwnB.same {B : Nat} {W W1 : World} {e : TypeId} {sz : Nat} {v : Value} {xs : List (List Value)} (h : OwnB B W e sz v xs) (hb : ∀ k, B ≤ k → k < W.heap.size → W1.heap[k]? = W.heap[k]?) : OwnB B W1 e sz v xs := by
  refine ⟨⟨h.1.1, ?_⟩, h.2⟩
  rcases h.1.2 with hn | ⟨g, cap, cur, rfl, hbb, hg, rest⟩
  · exact .inl hn
  · exact .inr ⟨g, cap, cur, rfl, hbb, (hb g hbb (Array.getElem?_eq_some_iff.1 hg).1).trans hg, rest⟩
theorem OwnB.row {B : Nat} {W : World} {e : TypeId} {sz : Nat} {v : Value} {xs : List (List Value)} (h : OwnB B W e sz v xs) : ∃ A c, v = .slice A xs.length c ∧ CRow W A sz xs := by
  rcases h.1.2 with ⟨rfl, hn⟩ | ⟨g, cap, cur, rfl, hbb, hg, rest⟩
  · refine ⟨none, 0, by rw [hn], .inl (List.eq_nil_of_length_eq_zero hn)⟩
  · refine ⟨_, cap, rfl, .inr ⟨g, rfl, (Array.getElem?_eq_some_iff.1 hg).1, fun j c hj i u hu => ?_⟩⟩
    rw [← addr0]
    exact h.1.cells (g := g) rfl _ _ (flatten_at xs h.2 j c hj i u hu)
/-- append of one element: what changes lies from block B on. -/
theorem appB {ops : Array Oper} {rest : List Oper} {o : Oper} {a : Act} {Q : Exit → Act → World → Prop} {W : World} (B : Nat) (hB : B ≤ W.heap.size) (hgd : o.guard = none) (s x : Operand) (t e : TypeId) (z : Value) (sz bytes : Nat)
    (ho : o.op = .call { callee := .builtin .append, args := #[s, x], argTypes := #[t, t] })
    (ht : Tryz.prog.underlying t = some (.slice e)) (hinfo : (Tryz.prog.info? e).map (fun i => (i.zero, i.size, i.bytes)) = some (some z, sz, bytes)) (hz : z.cells.size = sz) (hs0 : 0 < sz) (hb0 : 0 < bytes)
    (v : Value) (xs : List (List Value)) (ys : List Value) (hs : a.eval s = v) (hx : a.eval x = .slice (some ⟨W.heap.size, 0, none⟩) 1 1) (hys : ys.length = sz) (h1 : ∀ u ∈ ys, u.oneCell' = true)
    (HO : OwnB B W e sz v xs) (hl : (xs.length + 1) * bytes ≤ 140737488355328)
    (h : ∀ v1 w1, OwnB B w1 e sz v1 (xs ++ [ys]) → Below B W w1 → (∀ k, k < W.heap.size → v.ownBlock ≠ some k → w1.heap[k]? = W.heap[k]? ∧ v1.ownBlock ≠ some k) → W.heap.size ≤ w1.heap.size → wpList Tryz.prog ops Q rest (a.put o.dst v1) w1) :
    wpList Tryz.prog ops Q (o :: rest) a (W.alloc (.cells ys.toArray e)) := by
  obtain ⟨i0, hi, hzz⟩ := Option.map_eq_some_iff.1 hinfo
  simp only [Prod.mk.injEq] at hzz
  obtain ⟨hz0, hz1, hz2⟩ := hzz
  have hlen : xs.length + 1 ≤ 140737488355328 := Nat.le_trans (Nat.le_mul_of_pos_right _ hb0) hl
  refine wpList_append_own_at (W.alloc (.cells ys.toArray e)) hgd s x t ho B e i0 z sz bytes ht hi hz0 hz1 hz2 hz hs0 v xs.length xs.flatten hs (HO.1.alloc _) ⟨W.heap.size, 0, none⟩ 1 1 ys hx (by rw [hys]; simp)
    (fun j u hu => by rw [addr0, cell_of_row _ W.heap.size j ys.toArray e (0, 0) (heap_alloc_new W (.cells ys.toArray e))]; simpa using hu) h1 (by simp only [maxLen]; omega) hl (by simp; omega) ?_
  intro v1 w1 hown hg _ hob
  have hsz := hg.size
  simp at hsz
  refine h v1 w1 ⟨?_, ?_⟩ (((Below.refl B W).alloc hB _).grown hg (by simp; omega) fun k hk => (HO.1.lt k hk).1) (fun k hk hne => ⟨?_, ?_⟩) (by omega)
  · simpa using hown
  · intro c hc
    rcases List.mem_append.1 hc with hc | hc
    · exact HO.2 c hc
    · simp at hc
      rw [hc, hys]
  · rw [hg.block k (by simp; omega) (fun e => hne e.symm)]
    exact Below.heap_alloc W _ k hk
  · rcases hob with e | e
    · rw [e]; exact hne
    · rw [e]
      intro e2
      have := Option.some.inj e2
      simp at this
      omega
/-- As CB, from block B on. -/
def CBB (B : Nat) (W : World) (e : TypeId) (v : Value) (xs : List (List Value)) : Prop :=
  ∃ rs : List (Nat × Nat), rs.length = xs.length ∧ OwnB B W e 1 v (rs.map fun r => [Value.slice (some ⟨r.1, 0, none⟩) 1 r.2]) ∧
    ∀ (j : Nat) (r : Nat × Nat) (x : List Value), rs[j]? = some r → xs[j]? = some x → B ≤ r.1 ∧ r.1 < W.heap.size ∧ v.ownBlock ≠ some r.1 ∧ ∀ (i : Nat) (u : Value), x[i]? = some u → W.cell? ⟨r.1, i, none⟩ = some u
theorem cbb_nil (B : Nat) (W : World) (e : TypeId) : CBB B W e (.slice none 0 0) [] := ⟨[], rfl, ownB_nil _ _ _ _, fun j r x h => by simp at h⟩
theorem CBB.same {B : Nat} {W W1 : World} {e : TypeId} {v : Value} {xs : List (List Value)} (h : CBB B W e v xs) (hs : W.heap.size ≤ W1.heap.size) (hb : ∀ k, B ≤ k → k < W.heap.size → W1.heap[k]? = W.heap[k]?) : CBB B W1 e v xs := by
  obtain ⟨rs, h1, h2, h3⟩ := h
  refine ⟨rs, h1, h2.same hb, fun j r x hr hx => ?_⟩
  obtain ⟨a0, a, b, c⟩ := h3 j r x hr hx
  exact ⟨a0, Nat.lt_of_lt_of_le a hs, b, fun i u hu => (World.cell?_of_block (a := ⟨r.1, i, none⟩) (hb _ a0 a)).trans (c i u hu)⟩
theorem CBB.below {B : Nat} {W W1 : World} {e : TypeId} {v : Value} {xs : List (List Value)} (h : CBB B W e v xs) (hb : Below W.heap.size W W1) : CBB B W1 e v xs :=
  h.same hb.size fun k _ hk => hb.block k hk
theorem CBB.ne {B : Nat} {W : World} {e : TypeId} {v : Value} {xs : List (List Value)} (h : CBB B W e v xs) {g : Nat} (hg : W.heap.size ≤ g) : v.ownBlock ≠ some g := by
  obtain ⟨rs, _, ho, _⟩ := h
  intro e
  have := (ho.1.lt g e).2
  omega
theorem CBB.ge {B : Nat} {W : World} {e : TypeId} {v : Value} {xs : List (List Value)} (h : CBB B W e v xs) {g : Nat} (hg : g < B) : v.ownBlock ≠ some g := by
  obtain ⟨rs, _, ho, _⟩ := h
  intro e
  have := (ho.1.lt g e).1
  omega
theorem CBB.col {B : Nat} {W : World} {e : TypeId} {v : Value} {xs : List (List Value)} (h : CBB B W e v xs) (sz : Nat) :
    ∃ A c, v = .slice A xs.length c ∧ ColB B W A sz xs := by
  obtain ⟨rs, h1, h2, h3⟩ := h
  obtain ⟨A, c, rfl, hr⟩ := h2.row
  refine ⟨A, c, by rw [List.length_map, h1], fun w' hw hk => ⟨rs.map fun r => (some ⟨r.1, 0, none⟩, r.2), by rw [List.length_map, h1], ?_, fun j r x hr hx => ?_⟩⟩
  · rw [List.map_map]
    rcases hr with h | ⟨g, rfl, hg, hc⟩
    · left
      simpa using h
    · have hlt := (h2.1.lt g rfl).1
      exact .inr ⟨g, rfl, Nat.lt_of_lt_of_le hg hw, fun j c hj i u hu => (hk g _ hlt hg).trans (hc j c hj i u hu)⟩
  · rw [List.getElem?_map] at hr
    obtain ⟨r', hr', rfl⟩ := Option.map_eq_some_iff.1 hr
    obtain ⟨a0, a, b, c⟩ := h3 j r' x hr' hx
    refine .inr ⟨r'.1, rfl, Nat.lt_of_lt_of_le a hw, fun j' c' hj i u hu => ?_⟩
    match j', hj with
    | 0, hj =>
      simp at hj
      subst hj
      simpa using (hk _ _ a0 a).trans (c i u hu)
theorem CBB.slice {B : Nat} {W : World} {e : TypeId} {v : Value} {xs : List (List Value)} (h : CBB B W e v xs) : ∃ A n c, v = .slice A n c := by
  obtain ⟨A, c, he, _⟩ := h.col 1
  exact ⟨A, _, c, he⟩
theorem appRowB {ops : Array Oper} {rest : List Oper} {o : Oper} {a : Act} {Q : Exit → Act → World → Prop} {W : World} (B : Nat) (hB : B ≤ W.heap.size) (t e : TypeId) (ht : Tryz.prog.underlying t = some (.slice e)) (hinfo : (Tryz.prog.info? e).map (fun i => (i.zero, i.size, i.bytes)) = some (some (.slice none 0 0), 1, 24))
    (v : Value) (xs : List (List Value)) (x : List Value) (g c : Nat) (s y : Operand) (hgd : o.guard = none)
    (ho : o.op = .call { callee := .builtin .append, args := #[s, y], argTypes := #[t, t] })
    (hs : a.eval s = v) (hy : a.eval y = .slice (some ⟨W.heap.size, 0, none⟩) 1 1)
    (HC : CBB B W e v xs) (hl : xs.length ≤ 100000) (hg0 : B ≤ g) (hg : g < W.heap.size) (hne : v.ownBlock ≠ some g) (hc : ∀ (i : Nat) (u : Value), x[i]? = some u → W.cell? ⟨g, i, none⟩ = some u)
    (h : ∀ v1 w1, CBB B w1 e v1 (xs ++ [x]) → Below B W w1 → W.heap.size ≤ w1.heap.size → wpList Tryz.prog ops Q rest (a.put o.dst v1) w1) :
    wpList Tryz.prog ops Q (o :: rest) a (W.alloc (.cells #[.slice (some ⟨g, 0, none⟩) 1 c] e)) := by
  obtain ⟨rs, h1, h2, h3⟩ := HC
  refine appB B hB (ys := [.slice (some ⟨g, 0, none⟩) 1 c]) hgd s y t e _ 1 24 ho ht hinfo rfl (by decide) (by decide) v _ hs hy rfl (by intro u hu; simp only [List.mem_cons, List.not_mem_nil, or_false] at hu; subst hu; rfl) h2 (by rw [List.length_map]; omega) ?_
  intro v1 w1 ho1 hb1 hk hsz
  refine h v1 w1 ⟨rs ++ [(g, c)], by simp [h1], by simpa using ho1, fun j r z hr hz => ?_⟩ hb1 hsz
  have key : ∀ (r : Nat) (z : List Value), B ≤ r → r < W.heap.size → v.ownBlock ≠ some r → (∀ (i : Nat) (u : Value), z[i]? = some u → W.cell? ⟨r, i, none⟩ = some u) → B ≤ r ∧ r < w1.heap.size ∧ v1.ownBlock ≠ some r ∧ ∀ (i : Nat) (u : Value), z[i]? = some u → w1.cell? ⟨r, i, none⟩ = some u := by
    intro r z hr0 hr hn hz
    obtain ⟨k1, k2⟩ := hk r hr hn
    exact ⟨hr0, by omega, k2, fun i u hu => (World.cell?_of_block (a := ⟨r, i, none⟩) k1).trans (hz i u hu)⟩
  by_cases hj : j < rs.length
  · rw [List.getElem?_append_left hj] at hr
    rw [List.getElem?_append_left (by omega)] at hz
    obtain ⟨a0, a1, a2, a3⟩ := h3 j r z hr hz
    exact key r.1 z a0 a1 a2 a3
  · have hjl := (List.getElem?_eq_some_iff.1 hr).1
    simp at hjl
    have hje : j = rs.length := by omega
    subst hje
    rw [List.getElem?_append_right (Nat.le_refl _)] at hr
    rw [List.getElem?_append_right (by omega)] at hz
    simp at hr
    simp [h1] at hz
    subst hr hz
    exact key g x hg0 hg hne hc
/-- append of one row, as a run: for a region that draws its order. -/
theorem runRowB {W : World} (B : Nat) (hB : B ≤ W.heap.size) (t ty e : TypeId) (ht : Tryz.prog.underlying t = some (.slice e)) (hinfo : (Tryz.prog.info? e).map (fun i => (i.zero, i.size, i.bytes)) = some (some (.slice none 0 0), 1, 24))
    (v : Value) (xs : List (List Value)) (x : List Value) (g c : Nat)
    (HC : CBB B W e v xs) (hl : xs.length ≤ 100000) (hg0 : B ≤ g) (hg : g < W.heap.size) (hne : v.ownBlock ≠ some g) (hc : ∀ (i : Nat) (u : Value), x[i]? = some u → W.cell? ⟨g, i, none⟩ = some u) :
    ∃ v1 w1, (Builtin.append_ #[t, t] ty #[v, .slice (some ⟨W.heap.size, 0, none⟩) 1 1]).run Tryz.prog (W.alloc (.cells #[.slice (some ⟨g, 0, none⟩) 1 c] e)) = .ok v1 w1 ∧ CBB B w1 e v1 (xs ++ [x]) ∧ Below B W w1 ∧ W.heap.size ≤ w1.heap.size := by
  obtain ⟨rs, h1, h2, h3⟩ := HC
  obtain ⟨i0, hi, hzz⟩ := Option.map_eq_some_iff.1 hinfo
  simp only [Prod.mk.injEq] at hzz
  obtain ⟨hz0, hz1, hz2⟩ := hzz
  have hrl : (rs.map fun r => [Value.slice (some ⟨r.1, 0, none⟩) 1 r.2]).length = xs.length := by rw [List.length_map, h1]
  obtain ⟨v1, w1, hr, hown, hgr, _, hob⟩ := run_append_own_at (P := Tryz.prog) (W.alloc (.cells #[.slice (some ⟨g, 0, none⟩) 1 c] e)) B t ty e i0 _ 1 24 ht hi hz0 hz1 hz2 rfl (by decide) v _ _ (h2.1.alloc _) ⟨W.heap.size, 0, none⟩ 1 1 [.slice (some ⟨g, 0, none⟩) 1 c] rfl (cell_one_new _ _ _) (by intro u hu; simp only [List.mem_cons, List.not_mem_nil, or_false] at hu; subst hu; rfl) (by rw [hrl]; simp only [maxLen]; omega) (by rw [hrl]; omega) (by simp; omega)
  have hsz := hgr.size
  simp at hsz
  refine ⟨v1, w1, hr, ⟨rs ++ [(g, c)], by simp [h1], ⟨by simpa using hown, ?_⟩, fun j r z hr hz => ?_⟩, ((Below.refl B W).alloc hB _).grown hgr (by simp; omega) fun k hk => (h2.1.lt k hk).1, by omega⟩
  · intro c' hc'
    rw [List.map_append] at hc'
    rcases List.mem_append.1 hc' with hc' | hc'
    · exact h2.2 c' hc'
    · simp at hc'
      rw [hc']
      rfl
  have key : ∀ (r : Nat) (z : List Value), B ≤ r → r < W.heap.size → v.ownBlock ≠ some r → (∀ (i : Nat) (u : Value), z[i]? = some u → W.cell? ⟨r, i, none⟩ = some u) → B ≤ r ∧ r < w1.heap.size ∧ v1.ownBlock ≠ some r ∧ ∀ (i : Nat) (u : Value), z[i]? = some u → w1.cell? ⟨r, i, none⟩ = some u := by
    intro r z hr0 hr hn hz
    have k1 : w1.heap[r]? = W.heap[r]? := by
      rw [hgr.block r (by simp; omega) (fun e => hn e.symm)]
      exact Below.heap_alloc W _ r hr
    refine ⟨hr0, by omega, ?_, fun i u hu => (World.cell?_of_block (a := ⟨r, i, none⟩) k1).trans (hz i u hu)⟩
    rcases hob with e | e
    · rw [e]; exact hn
    · rw [e]
      intro e2
      have := Option.some.inj e2
      simp at this
      omega
  by_cases hj : j < rs.length
  · rw [List.getElem?_append_left hj] at hr
    rw [List.getElem?_append_left (by omega)] at hz
    obtain ⟨a0, a1, a2, a3⟩ := h3 j r z hr hz
    exact key r.1 z a0 a1 a2 a3
  · have hjl := (List.getElem?_eq_some_iff.1 hr).1
    simp at hjl
    have hje : j = rs.length := by omega
    subst hje
    rw [List.getElem?_append_right (Nat.le_refl _)] at hr
    rw [List.getElem?_append_right (by omega)] at hz
    simp at hr
    simp [h1] at hz
    subst hr hz
    exact key g x hg0 hg hne hc
set_option maxRecDepth 100000 in
set_option maxHeartbeats 1000000 in
theorem c44_1 (n : Int) (t : ByteArray) (w : World) (h : n.natAbs < 35184372088832) : Calls Tryz.prog 44 #[.agg #[.int .i64 1, .int .i64 n, .int .i64 1, .string t, .slice none 0 0]] w (Ret w (.agg #[.int .i64 1, .float .f64 (floatOfInt FloatKind.f64 n), .string t, .slice none 0 0])) := by
  have hq : ∀ W, (binOp BinOp.quo 24 (.float FloatKind.f64 (floatOfInt FloatKind.f64 n)) (.float FloatKind.f64 (floatOfInt FloatKind.f64 1))).run Tryz.prog W = .ok (.float FloatKind.f64 (floatOfInt FloatKind.f64 n)) W := fun W => run_float_arith W _ _ _ _ _ _ (foi_div1 n h)
  go_enter Tryz.func44, Tryz.ntmps44
  go_wp2_with fail
  exact bodyPost_ret (v := .agg #[.int .i64 1, .float .f64 (floatOfInt FloatKind.f64 n), .string t, .slice none 0 0]) (by first | (simp [results, Tryz.results44, go_sem, hc1, hz1]; done) | (simp [results, Tryz.results44, go_sem]; done) | (simp [results, Tryz.results44, go_sem, *]; done)) rfl (ret_mk (by repeat (first | (with_reducible exact Below.refl _ _) | (with_reducible assumption) | ((with_reducible refine Below.alloc ?_ ?_ _); rotate_left; focus (first | exact Nat.le_refl _ | omega | (simp; done) | (simp; omega))) | ((with_reducible refine Below.setCell ?_ ?_ _); rotate_left; focus (first | exact Nat.le_refl _ | omega | (simp; done) | (simp; omega))) | (with_reducible refine Below.drew ?_) | (with_reducible refine below_drewN ?_ _) | ((with_reducible refine below_via (by assumption) ?_ ?_); focus (first | exact Nat.le_refl _ | omega | (simp; done) | (simp; omega))))))
theorem app47n {ops : Array Oper} {rest : List Oper} {o : Oper} {a : Act} {Q : Exit → Act → World → Prop} {W : World} (T E : TypeId) (hT : Tryz.prog.underlying T = some (.slice E)) (hE : (Tryz.prog.info? E).map (fun i => (i.zero, i.size, i.bytes)) = some (some (.agg #[.int .i64 0, .float .f64 0, .string ⟨#[]⟩, .slice none 0 0]), 4, 56)) (y : I) (s x : Operand) (hgd : o.guard = none)
    (ho : o.op = .call { callee := .builtin .append, args := #[s, x], argTypes := #[T, T] }) (hs : a.eval s = .slice none 0 0) (hx : a.eval x = .slice (some ⟨W.heap.size, 0, none⟩) 1 1)
    (h : ∀ (g c : Nat) (w1 : World), W.heap.size ≤ g → g < w1.heap.size → (∀ (i : Nat) (u : Value), y.cells[i]? = some u → w1.cell? ⟨g, i, none⟩ = some u) → Below W.heap.size W w1 → wpList Tryz.prog ops Q rest (a.put o.dst (.slice (some ⟨g, 0, none⟩) 1 c)) w1) :
    wpList Tryz.prog ops Q (o :: rest) a (W.alloc (.cells #[.int .i64 y.k, .float .f64 y.b, .string y.t, .slice none 0 0] E)) :=
  appOne hgd s x T E _ 4 56 ho hT hE rfl (by decide) (by decide) (by decide) y.cells hs hx rfl
    (by intro u hu; simp only [I.cells, List.mem_cons, List.not_mem_nil, or_false] at hu; rcases hu with rfl | rfl | rfl | rfl <;> rfl) h
/-- A row of one value in a new block g. -/
def One (w : World) (x : List Value) (e : Ending) (w' : World) : Prop :=
  ∃ g c : Nat, e = .returned (.slice (some ⟨g, 0, none⟩) 1 c) ∧ w.heap.size ≤ g ∧ g < w'.heap.size ∧ (∀ (i : Nat) (u : Value), x[i]? = some u → w'.cell? ⟨g, i, none⟩ = some u) ∧ Below w.heap.size w w'
set_option maxRecDepth 100000 in
set_option maxHeartbeats 1000000 in
theorem c26n (k : Int) (A : Option Addr) (c : Nat) (w : World) (hk : -9999 ≤ k ∧ k ≤ 9999) (hx : CRow w A 5 [(vN k).cells]) :
    Calls Tryz.prog 26 #[.slice A 1 c] w (One w (iN k).cells) := by
  rcases hx with h | ⟨g, rfl, hg, hc⟩
  · cases h
  have e0 := hc 0 _ rfl 0 _ rfl
  have e1 := hc 0 _ rfl 1 _ rfl
  have e2 := hc 0 _ rfl 2 _ rfl
  have e3 := hc 0 _ rfl 3 _ rfl
  have e4 := hc 0 _ rfl 4 _ rfl
  clear hc
  simp only [vN, Nat.zero_mul, Nat.zero_add] at e0 e1 e2 e3 e4
  go_enter Tryz.func26, Tryz.ntmps26
  go_wp2_with fail
  refine wp_loop_rounds 2 ?_
  rw [rounds_succ]
  go_wp2_with (first
    | (go_at_call 44; refine (c44_1 k _ _ (by omega)).mono ?_; rintro e w1 ⟨rfl, hb1⟩)
    | (at_builtin; refine app47n 47 27 under47 info27 (iN k) _ _ rfl rfl rfl (by first | rfl | (change Value.slice (some ⟨_, 0, none⟩) 1 1 = _; simp [World.setCell])) ?_; intro g1 c1 w3 hg1 hg1l hcc1 hb3))
  have hb13 : Below w.heap.size w w3 := keepS hb3 hb1
  rw [rounds_succ]
  go_wp2_with fail
  go_ret
  exact ⟨g1, c1, rfl, Nat.le_trans hb1.size hg1, hg1l, hcc1, hb13⟩
theorem under25 : Tryz.prog.underlying 25 = some (.slice 47) := by kernel_rfl
theorem info47 : (Tryz.prog.info? 47).map (fun i => (i.zero, i.size, i.bytes)) = some (some (.slice none 0 0), 1, 24) := by kernel_rfl
theorem under50 : Tryz.prog.underlying 50 = some (.slice 54) := by kernel_rfl
theorem info54 : (Tryz.prog.info? 54).map (fun i => (i.zero, i.size, i.bytes)) = some (some (.slice none 0 0), 1, 24) := by kernel_rfl
theorem step_run {ops : Array Oper} {o : Oper} {a : Act} {w : World} {K : Act → World → Prop} {Q : Exit → Act → World → Prop} {E : Prop} (hg : o.guard = none) (s x : Operand) (t : TypeId)
    (hop : o.op = Op.call { callee := Callee.builtin Builtin.append, args := #[s, x], argTypes := #[t, t] }) (v1 : Value) (w1 : World)
    (hrun : (Builtin.append_ #[t, t] o.type #[a.eval s, a.eval x]).run Tryz.prog w = .ok v1 w1) (hK : K (a.put o.dst v1) w1) :
    if Region.wanted o (yielded ops a.tmps) = true then Oper.wp Tryz.prog o a w K Q else E := by
  have hw : Region.wanted o (yielded ops a.tmps) = true := by simp [Region.wanted, hg]
  rw [if_pos hw]
  unfold Oper.wp
  simp [execOp, hop, resolve, invoke, builtin, hrun, Result.andThen]
  exact hK
theorem step_call {ops : Array Oper} {o : Oper} {a : Act} {w : World} {K : Act → World → Prop} {Q : Exit → Act → World → Prop} {E : Prop} (hg : o.guard = none) (F : Nat) (x : Operand) (t : TypeId)
    (hop : o.op = Op.call { callee := Callee.value (Operand.func F), args := #[x], argTypes := #[t] }) (u : Value) (hx : a.eval x = u) (hent : (callFunc F #[u]).run Tryz.prog w = .ok (.enter F #[u]) w)
    (hC : Calls Tryz.prog F #[u] w (fun e w' => ∃ v, e = .returned v ∧ K (a.put o.dst v) w')) :
    if Region.wanted o (yielded ops a.tmps) = true then Oper.wp Tryz.prog o a w K Q else E := by
  have hw : Region.wanted o (yielded ops a.tmps) = true := by simp [Region.wanted, hg]
  rw [if_pos hw]
  unfold Oper.wp
  have hr : (execOp a.eval o).run Tryz.prog w = .ok (.enter F #[u]) w := by
    rw [← hent, ← hx]
    simp [execOp, hop, resolve, invoke, Deferred.ofValue, Act.eval]
  rw [hr]
  refine hC.mono ?_
  rintro e w' ⟨v, rfl, hk⟩
  exact hk
/-- Block b is a matrix of the implementation under way: its rows v. -/
structure MCell (w : World) (b : Nat) (κ : Int) (v : Value) : Prop where
  lt : b < w.heap.size
  q0 : w.cell? ⟨b, 0, none⟩ = some (.int .i64 κ)
  q1 : w.cell? ⟨b, 1, none⟩ = some (.float .f64 0)
  q2 : w.cell? ⟨b, 2, none⟩ = some (.string ⟨#[]⟩)
  q3 : w.cell? ⟨b, 3, none⟩ = some v
  fr : ∀ o, w.frozen? ⟨b, o, none⟩ = false
theorem MCell.below {w w1 : World} {b B : Nat} {κ : Int} {v : Value} (h : MCell w b κ v) (hlt : b < B) (hb : Below B w w1) : MCell w1 b κ v :=
  ⟨Nat.lt_of_lt_of_le h.lt hb.size, (hb.cell (p := ⟨b, _, none⟩) hlt).trans h.q0, (hb.cell (p := ⟨b, _, none⟩) hlt).trans h.q1, (hb.cell (p := ⟨b, _, none⟩) hlt).trans h.q2, (hb.cell (p := ⟨b, _, none⟩) hlt).trans h.q3, fun o => (hb.frozen (p := ⟨b, o, none⟩) hlt).trans (h.fr o)⟩
set_option maxRecDepth 100000 in
set_option maxHeartbeats 1000000 in
theorem c44M (ks : List Int) (A : Option Addr) (c : Nat) (w : World) (hl : ks.length ≤ 120) (h0 : 0 < ks.length) (hkk : ∀ k, k ∈ ks → -9999 ≤ k ∧ k ≤ 9999) (hx : Col w A 5 (ks.map fun k => (vN k).cells)) :
    Calls Tryz.prog 44 #[.agg #[.int .i64 5, .int .i64 0, .int .i64 0, .string ⟨#[]⟩, .slice A ks.length c]] w (fun e w' => ∃ A' c', e = .returned (.agg #[.int .i64 5, .float .f64 0, .string ⟨#[]⟩, .slice A' ks.length c']) ∧ ColB w.heap.size w' A' 4 (ks.map fun k => (iN k).cells) ∧ Below w.heap.size w w') := by
  obtain ⟨rs, hrl, hro, hre⟩ := hx
  rw [List.length_map] at hrl
  rcases hro with h | ⟨g, rfl, hg, hc⟩
  · rw [List.map_eq_nil_iff.1 h] at hrl
    simp at hrl
    omega
  have HC : Hid (∀ (j : Nat) (r : Option Addr × Nat), rs[j]? = some r → w.cell? ⟨g, j, none⟩ = some (.slice r.1 1 r.2)) := Lib.hid fun j r hj => by
    have := hc j _ (by rw [List.getElem?_map, hj]; rfl) 0 _ rfl
    simpa using this
  have HE := Lib.hid hre
  have HK := Lib.hid hkk
  clear hc hre hkk
  obtain ⟨n, hn⟩ : ∃ n, n = ks.length := ⟨_, rfl⟩
  rw [← hn] at hl h0 hrl ⊢
  have HN := Lib.hid hn
  have HR := Lib.hid hrl
  clear hn hrl
  go_enter Tryz.func44, Tryz.ntmps44
  go_wp2_with fail
  have hMZ : Hid (MCell (((w.alloc (.cells #[.int .i64 5, .int .i64 0, .int .i64 0, .string ⟨#[]⟩, .slice (some ⟨g, 0, none⟩) n c] 32)).alloc (.cells #[.int .i64 0, .float .f64 0, .string ⟨#[]⟩, .slice none 0 0] 27)).alloc (.cells #[.int .i64 5, .float .f64 0, .string ⟨#[]⟩, .slice none 0 0] 27)) (w.heap.size + 1) 0 (.slice none 0 0)) := Lib.hid ⟨by simp, by simp [go_sem], by simp [go_sem], by simp [go_sem], by simp [go_sem], fun o => by simp [go_sem]⟩
  have hMC : Hid (MCell (((w.alloc (.cells #[.int .i64 5, .int .i64 0, .int .i64 0, .string ⟨#[]⟩, .slice (some ⟨g, 0, none⟩) n c] 32)).alloc (.cells #[.int .i64 0, .float .f64 0, .string ⟨#[]⟩, .slice none 0 0] 27)).alloc (.cells #[.int .i64 5, .float .f64 0, .string ⟨#[]⟩, .slice none 0 0] 27)) (w.heap.size + 1 + 1) 5 (.slice none 0 0)) := Lib.hid ⟨by simp, by simp [go_sem], by simp [go_sem], by simp [go_sem], by simp [go_sem], fun o => by simp [go_sem]⟩
  have hB4 : (((w.alloc (.cells #[.int .i64 5, .int .i64 0, .int .i64 0, .string ⟨#[]⟩, .slice (some ⟨g, 0, none⟩) n c] 32)).alloc (.cells #[.int .i64 0, .float .f64 0, .string ⟨#[]⟩, .slice none 0 0] 27)).alloc (.cells #[.int .i64 5, .float .f64 0, .string ⟨#[]⟩, .slice none 0 0] 27)).cell? ⟨w.heap.size, 4, none⟩ = some (.slice (some ⟨g, 0, none⟩) n c) := by simp [go_sem]
  have hbA : Below w.heap.size w (((w.alloc (.cells #[.int .i64 5, .int .i64 0, .int .i64 0, .string ⟨#[]⟩, .slice (some ⟨g, 0, none⟩) n c] 32)).alloc (.cells #[.int .i64 0, .float .f64 0, .string ⟨#[]⟩, .slice none 0 0] 27)).alloc (.cells #[.int .i64 5, .float .f64 0, .string ⟨#[]⟩, .slice none 0 0] 27)) := (by repeat (first | (with_reducible exact Below.refl _ _) | (with_reducible assumption) | ((with_reducible refine Below.alloc ?_ ?_ _); rotate_left; focus (first | exact Nat.le_refl _ | omega | (simp; done) | (simp; omega))) | ((with_reducible refine Below.setCell ?_ ?_ _); rotate_left; focus (first | exact Nat.le_refl _ | omega | (simp; done) | (simp; omega))) | (with_reducible refine Below.drew ?_) | (with_reducible refine below_drewN ?_ _) | ((with_reducible refine below_via (by assumption) ?_ ?_); focus (first | exact Nat.le_refl _ | omega | (simp; done) | (simp; omega)))))
  have hsA : (((w.alloc (.cells #[.int .i64 5, .int .i64 0, .int .i64 0, .string ⟨#[]⟩, .slice (some ⟨g, 0, none⟩) n c] 32)).alloc (.cells #[.int .i64 0, .float .f64 0, .string ⟨#[]⟩, .slice none 0 0] 27)).alloc (.cells #[.int .i64 5, .float .f64 0, .string ⟨#[]⟩, .slice none 0 0] 27)).heap.size = w.heap.size + 3 := by simp
  generalize (((w.alloc (.cells #[.int .i64 5, .int .i64 0, .int .i64 0, .string ⟨#[]⟩, .slice (some ⟨g, 0, none⟩) n c] 32)).alloc (.cells #[.int .i64 0, .float .f64 0, .string ⟨#[]⟩, .slice none 0 0] 27)).alloc (.cells #[.int .i64 5, .float .f64 0, .string ⟨#[]⟩, .slice none 0 0] 27)) = W1 at hMZ hMC hB4 hbA hsA ⊢
  go_loopw [4] (fun i wr => ∃ (q : Nat) (v : Value), q ≤ n ∧ i = .int .i64 q ∧ Below (w.heap.size + 1 + 1) W1 wr ∧ MCell wr (w.heap.size + 1 + 1) 5 v ∧ CBB (w.heap.size + 3) wr 47 v ((ks.take q).map fun k => (iN k).cells)) (fun i _ => n - (intOf i).toNat)
  case atStart => exact ⟨0, _, Nat.zero_le _, rfl, Below.refl _ _, hMC.out, cbb_nil _ _ _⟩
  case round =>
    obtain ⟨q, v, hq, rfl, hb, hm, hcb⟩ := hrel
    have HM := Lib.hid hm
    have HCB := Lib.hid hcb
    obtain ⟨hml, m0, m1, m2, m3, mf⟩ := hm
    clear hcb
    have hwr := hb.size
    have hB4r := (hb.cell (p := ⟨w.heap.size, 4, none⟩) (show w.heap.size < _ by omega)).trans hB4
    by_cases hlt : q < n
    · obtain ⟨k, hkq⟩ : ∃ k, ks[q]? = some k := ⟨_, List.getElem?_eq_getElem (by rw [← HN.out]; exact hlt)⟩
      obtain ⟨r, hrq⟩ : ∃ r, rs[q]? = some r := ⟨_, List.getElem?_eq_getElem (by rw [HR.out]; exact hlt)⟩
      have hkb := HK.out k (List.mem_of_getElem? hkq)
      have hbw : Below w.heap.size w wr := hbA.trans (hb.mono (by omega))
      have e0 := (hbw.cell (p := ⟨g, q, none⟩) hg).trans (HC.out q r hrq)
      have HE1 := Lib.hid ((HE.out q r (vN k).cells hrq (by rw [List.getElem?_map, hkq]; rfl)).below (Below.drew hbw))
      have hgr : g < wr.heap.size := by omega
      have HKQ := Lib.hid hkq
      clear hkq hrq
      go_wp2_with fail
      have hrd : wr.drew.heap.size = wr.heap.size := rfl
      go_region_law (first | (refine step_run rfl _ _ _ rfl (.slice A4 n4 c4) w4 hap ?_) | (refine step_call rfl 26 _ _ rfl (.slice r.1 1 r.2) rfl (by simp [go_sem]) ?_; refine (c26n k r.1 r.2 wr.drew hkb HE1.out).mono ?_; rintro e w2 ⟨g1, c1, rfl, hg1, hg1l, hcc1, hb2'⟩; have hb2 : Below wr.heap.size wr w2 := below_then (Below.drew (Below.refl _ _)) (Nat.le_refl _) hb2'; have hs2 := hb2.size; have HM2 := Lib.hid (HM.out.below hml hb2); obtain ⟨hml2, x0, x1, x2, x3, xf⟩ := HM.out.below hml hb2; clear hb2'; obtain ⟨v4, w4, hap, hcb4, hb4, hz4⟩ := runRowB (w.heap.size + 3) (by omega) 25 25 47 under25 info47 v (List.map (fun k => (iN k).cells) (List.take q ks)) (iN k).cells g1 c1 (HCB.out.below hb2) (by rw [List.length_map, List.length_take]; omega) (by omega) hg1l (HCB.out.ne (by omega)) hcc1; obtain ⟨A4, n4, c4, hv4⟩ := hcb4.slice; subst hv4; have HCB4 := Lib.hid hcb4; have HM4 := Lib.hid (HM2.out.below (by omega) hb4); obtain ⟨hml4, y0, y1, y2, y3, yf⟩ := HM2.out.below (by omega) hb4; clear hcb4; refine ⟨_, rfl, ?_⟩))
      all_goals go_wp2_with fail
      all_goals
        have hbf : Below (w.heap.size + 1 + 1) W1 w4 := (hb.trans (hb2.mono (by omega))).trans (hb4.mono (by omega))
        have hm4 : MCell (w4.setCell ⟨w.heap.size + 1 + 1, 3, none⟩ (.slice A4 n4 c4)) (w.heap.size + 1 + 1) 5 (.slice A4 n4 c4) :=
          ⟨by simpa using hml4, by simp [go_sem, y0], by simp [go_sem, y1], by simp [go_sem, y2], by simp [go_sem, y3, World.cell?_setCell_same], fun o => by simp [go_sem, yf]⟩
        refine ⟨⟨q + 1, _, by omega, by simp, hbf.setCell (Nat.le_refl _) _, hm4, ?_⟩, by simp only [intOf]; omega⟩
        rw [take_succ_of HKQ.out, List.map_append]
        exact HCB4.out.same (by simp) fun j hj _ => Below.heap_setCell _ _ _ _ (by first | (show j ≠ w.heap.size + 1 + 1; omega) | (show ¬ (w.heap.size + 1 + 1 = j); omega) | (show w.heap.size + 1 + 1 ≠ j; omega))
    · have hqn : q = n := by omega
      subst hqn
      have htk : List.take q ks = ks := by rw [HN.out, List.take_length]
      obtain ⟨A', c', rfl, hcol⟩ := HCB.out.col 4
      rw [htk] at hcol
      have hln : (List.map (fun k => (iN k).cells) (List.take q ks)).length = q := by rw [List.length_map, List.length_take]; have := HN.out; omega
      rw [hln] at m3
      clear hln
      have HCO := Lib.hid hcol
      clear hcol
      obtain ⟨hzl, z0, z1, z2, z3, zf⟩ := hMZ.out.below (by omega) hb
      have hbf : Below w.heap.size w wr := hbA.trans (hb.mono (by omega))
      go_wp2_with fail
      refine bodyPost_ret (v := .agg #[.int .i64 5, .float .f64 0, .string ⟨#[]⟩, .slice A' q c']) (by first | (simp [results, Tryz.results44, go_sem]; done) | (simp [results, Tryz.results44, go_sem, *]; done)) rfl ⟨A', c', rfl, ?_, (by repeat (first | (with_reducible exact Below.refl _ _) | (with_reducible assumption) | ((with_reducible refine Below.alloc ?_ ?_ _); rotate_left; focus (first | exact Nat.le_refl _ | omega | (simp; done) | (simp; omega))) | ((with_reducible refine Below.setCell ?_ ?_ _); rotate_left; focus (first | exact Nat.le_refl _ | omega | (simp; done) | (simp; omega))) | (with_reducible refine Below.drew ?_) | (with_reducible refine below_drewN ?_ _) | ((with_reducible refine below_via (by assumption) ?_ ?_); focus (first | exact Nat.le_refl _ | omega | (simp; done) | (simp; omega)))))⟩
      refine HCO.out.step (by omega) (by simp) ?_
      intro b o hb1 hb2
      have hne' : ¬ (w.heap.size + 1 = b) := by omega
      have hne := fun i : Nat => addr_ne (o := o) (i := i) (Ne.symm hne')
      simp [go_sem, hne, hne']
end Go.Proofs.YtkhgaenffnoimaaGreatDoor
