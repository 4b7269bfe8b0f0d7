/- of, all: values of the reference as values of the implementation. -/
import Derived.Test.YtkhgaenffnoimaaGreatDoorB1
set_option linter.unusedSimpArgs false
set_option linter.unusedVariables false
namespace Go.Proofs.YtkhgaenffnoimaaGreatDoor
open Go.RowKit
attribute [local go_sem] run_store_float
/-- A value of the implementation without rows: kind, the bits of its number, text. -/
structure I where
  k : Int
  b : Nat
  t : ByteArray
def I.cells (i : I) : List Value := [.int .i64 i.k, .float .f64 i.b, .string i.t, .slice none 0 0]
set_option maxRecDepth 100000 in
set_option maxHeartbeats 1000000 in
theorem c44_2 (n d : Int) (t : ByteArray) (w : World) : Calls Tryz.prog 44 #[.agg #[.int .i64 2, .int .i64 n, .int .i64 d, .string t, .slice none 0 0]] w (Ret w (.agg #[.int .i64 2, .float .f64 0, .string t, .slice none 0 0])) := by
  go_enter Tryz.func44, Tryz.ntmps44
  go_wp2_with fail
  exact bodyPost_ret (v := .agg #[.int .i64 2, .float .f64 0, .string t, .slice none 0 0]) (by first | (simp [results, Tryz.results44, go_sem, hc1, hz1]; done) | (simp [results, Tryz.results44, go_sem]; done) | (simp [results, Tryz.results44, go_sem, *]; done)) rfl (ret_mk (by repeat (first | (with_reducible exact Below.refl _ _) | (with_reducible assumption) | ((with_reducible refine Below.alloc ?_ ?_ _); rotate_left; focus (first | exact Nat.le_refl _ | omega | (simp; done) | (simp; omega))) | ((with_reducible refine Below.setCell ?_ ?_ _); rotate_left; focus (first | exact Nat.le_refl _ | omega | (simp; done) | (simp; omega))) | (with_reducible refine Below.drew ?_) | (with_reducible refine below_drewN ?_ _) | ((with_reducible refine below_via (by assumption) ?_ ?_); focus (first | exact Nat.le_refl _ | omega | (simp; done) | (simp; omega))))))
set_option maxRecDepth 100000 in
set_option maxHeartbeats 1000000 in
theorem c44_3 (n d : Int) (t : ByteArray) (w : World) : Calls Tryz.prog 44 #[.agg #[.int .i64 3, .int .i64 n, .int .i64 d, .string t, .slice none 0 0]] w (Ret w (.agg #[.int .i64 3, .float .f64 (floatOfInt FloatKind.f64 n), .string t, .slice none 0 0])) := by
  go_enter Tryz.func44, Tryz.ntmps44
  go_wp2_with fail
  exact bodyPost_ret (v := .agg #[.int .i64 3, .float .f64 (floatOfInt FloatKind.f64 n), .string t, .slice none 0 0]) (by first | (simp [results, Tryz.results44, go_sem, hc1, hz1]; done) | (simp [results, Tryz.results44, go_sem]; done) | (simp [results, Tryz.results44, go_sem, *]; done)) rfl (ret_mk (by repeat (first | (with_reducible exact Below.refl _ _) | (with_reducible assumption) | ((with_reducible refine Below.alloc ?_ ?_ _); rotate_left; focus (first | exact Nat.le_refl _ | omega | (simp; done) | (simp; omega))) | ((with_reducible refine Below.setCell ?_ ?_ _); rotate_left; focus (first | exact Nat.le_refl _ | omega | (simp; done) | (simp; omega))) | (with_reducible refine Below.drew ?_) | (with_reducible refine below_drewN ?_ _) | ((with_reducible refine below_via (by assumption) ?_ ?_); focus (first | exact Nat.le_refl _ | omega | (simp; done) | (simp; omega))))))
theorem foi1 : floatOfInt FloatKind.f64 1 = 4607182418800017408 := by decide
theorem foi0 : floatOfInt FloatKind.f64 0 = 0 := by decide
theorem under47 : Tryz.prog.underlying 47 = some (.slice 27) := by kernel_rfl
theorem info27 : (Tryz.prog.info? 27).map (fun i => (i.zero, i.size, i.bytes)) = some (some (.agg #[.int .i64 0, .float .f64 0, .string ⟨#[]⟩, .slice none 0 0]), 4, 56) := by kernel_rfl
theorem under54 : Tryz.prog.underlying 54 = some (.slice 52) := by kernel_rfl
theorem info52 : (Tryz.prog.info? 52).map (fun i => (i.zero, i.size, i.bytes)) = some (some (.agg #[.int .i64 0, .float .f64 0, .string ⟨#[]⟩, .slice none 0 0]), 4, 56) := by kernel_rfl
theorem appI {ops : Array Oper} {rest : List Oper} {o : Oper} {a : Act} {Q : Exit → Act → World → Prop} {w0 W : World} (T E : TypeId) (hT : Tryz.prog.underlying T = some (.slice E)) (hE : (Tryz.prog.info? E).map (fun i => (i.zero, i.size, i.bytes)) = some (some (.agg #[.int .i64 0, .float .f64 0, .string ⟨#[]⟩, .slice none 0 0]), 4, 56))
    (v : Value) (xs : List I) (y : I) (s x : Operand) (hgd : o.guard = none)
    (ho : o.op = .call { callee := .builtin .append, args := #[s, x], argTypes := #[T, T] })
    (hs : a.eval s = v) (hx : a.eval x = .slice (some ⟨W.heap.size, 0, none⟩) 1 1)
    (HO : Own w0 W E 4 v (xs.map I.cells)) (HB : Below w0.heap.size w0 W) (hl : xs.length ≤ 100000)
    (h : ∀ v1 w1, Own w0 w1 E 4 v1 ((xs ++ [y]).map I.cells) → Below w0.heap.size w0 w1 → wpList Tryz.prog ops Q rest (a.put o.dst v1) w1) :
    wpList Tryz.prog ops Q (o :: rest) a (W.alloc (.cells #[.int .i64 y.k, .float .f64 y.b, .string y.t, .slice none 0 0] E)) :=
  app1 (ys := y.cells) hgd s x T E _ 4 56 ho hT hE rfl (by decide) (by decide) v (xs.map I.cells) hs hx rfl
    (by intro u hu; simp only [I.cells, List.mem_cons, List.not_mem_nil, or_false] at hu; rcases hu with rfl | rfl | rfl | rfl <;> rfl)
    HO HB (by rw [List.length_map]; omega) (fun v1 w1 h1 hb => h v1 w1 (by simpa using h1) hb)
/-- A slice at A reads as the values xs. -/
def IRow (w : World) (A : Option Addr) (xs : List I) : Prop := CRow w A 4 (xs.map I.cells)
structure ICell (w : World) (g j : Nat) (v : I) : Prop where
  c0 : w.cell? ⟨g, j * 4, none⟩ = some (.int .i64 v.k)
  c1 : w.cell? ⟨g, j * 4 + 1, none⟩ = some (.float .f64 v.b)
  c2 : w.cell? ⟨g, j * 4 + 2, none⟩ = some (.string v.t)
  c3 : w.cell? ⟨g, j * 4 + 3, none⟩ = some (.slice none 0 0)
theorem IRow.icell {w : World} {A : Option Addr} {xs : List I} (h : IRow w A xs) : xs = [] ∨ ∃ g, A = some ⟨g, 0, none⟩ ∧ g < w.heap.size ∧ ∀ j v, xs[j]? = some v → ICell w g j v := by
  rcases h with h | ⟨g, rfl, hg, hc⟩
  · exact .inl (by simpa using h)
  · refine .inr ⟨g, rfl, hg, fun j v hv => ?_⟩
    have hj : (xs.map I.cells)[j]? = some v.cells := by rw [List.getElem?_map, hv]; rfl
    exact ⟨hc j _ hj 0 _ rfl, hc j _ hj 1 _ rfl, hc j _ hj 2 _ rfl, hc j _ hj 3 _ rfl⟩
theorem ICell.below {w w1 : World} {g j : Nat} {v : I} (h : ICell w g j v) (hb : Below w.heap.size w w1) (hg : g < w.heap.size) : ICell w1 g j v :=
  ⟨(hb.cell (p := ⟨g, _, none⟩) hg).trans h.c0, (hb.cell (p := ⟨g, _, none⟩) hg).trans h.c1, (hb.cell (p := ⟨g, _, none⟩) hg).trans h.c2, (hb.cell (p := ⟨g, _, none⟩) hg).trans h.c3⟩
/-- A new slice with the values xs, all else as it was. -/
def RetI (w : World) (xs : List I) (e : Ending) (w' : World) : Prop := ∃ A c, e = .returned (.slice A xs.length c) ∧ IRow w' A xs ∧ Below w.heap.size w w'
theorem Own.retI {w0 W : World} {E : TypeId} {v : Value} {xs : List I} (h : Own w0 W E 4 v (xs.map I.cells)) (hb : Below w0.heap.size w0 W) : RetI w0 xs (.returned v) W := by
  obtain ⟨A, c, rfl, hr⟩ := h.row
  exact ⟨A, c, by rw [List.length_map], hr, hb⟩
set_option maxRecDepth 100000 in
set_option maxHeartbeats 1000000 in
theorem c26 (ofI : V → I) (xs : List V) (A : Option Addr) (c : Nat) (w : World) (hl : xs.length ≤ 1000) (h0 : 0 < xs.length) (hx : VRow w A xs)
    (hf : ∀ v, v ∈ xs → ∀ w', Calls Tryz.prog 44 #[.agg #[.int .i64 v.k, .int .i64 v.n, .int .i64 v.d, .string v.t, .slice none 0 0]] w' (Ret w' (.agg #[.int .i64 (ofI v).k, .float .f64 (ofI v).b, .string (ofI v).t, .slice none 0 0]))) :
    Calls Tryz.prog 26 #[.slice A xs.length c] w (RetI w (xs.map ofI)) := by
  rcases hx with rfl | ⟨g, rfl, hg, hc⟩
  · cases h0
  have HC := Lib.hid hc
  have HF := Lib.hid hf
  clear hc hf
  obtain ⟨n, hn⟩ : ∃ n, n = xs.length := ⟨_, rfl⟩
  rw [← hn] at hl ⊢
  have HN := Lib.hid hn
  clear hn
  go_enter Tryz.func26, Tryz.ntmps26
  go_wp2_with fail
  go_loopw [3, 4] (fun v i wr => ∃ k : Nat, k ≤ n ∧ i = .int .i64 k ∧ Below w.heap.size w wr ∧ Own w wr 27 4 v (((xs.take k).map ofI).map I.cells)) (fun _ i _ => n - (intOf i).toNat)
  case atStart => exact ⟨0, Nat.zero_le _, rfl, Below.refl _ _, own_nil _ _ _ _⟩
  case round =>
    obtain ⟨k, hk, rfl, hb, ho⟩ := hrel
    have HO := Lib.hid ho
    clear ho
    have hwr := hb.size
    by_cases hlt : k < n
    · have hkx : k < xs.length := by rw [← HN.out]; exact hlt
      obtain ⟨v, hv⟩ : ∃ v, xs[k]? = some v := ⟨_, List.getElem?_eq_getElem hkx⟩
      have hvm : v ∈ xs := List.mem_of_getElem? hv
      obtain ⟨h0, h1, h2, h3, h4⟩ := (HC.out k v hv).below hb hg
      have HV := Lib.hid hv
      clear hv
      go_wp2_with (first
        | (go_at_call 44; refine (HF.out v hvm _).mono ?_; rintro e w1 ⟨rfl, hb1⟩)
        | (at_builtin; refine appI 47 27 under47 info27 _ ((xs.take k).map ofI) (ofI v) _ _ rfl rfl rfl rfl (HO.out.below hb1) (keepS hb1 hb) (by rw [List.length_map, List.length_take]; omega) ?_; intro v1 w2 ho2 hb2))
      go_roundw
      case rel => exact ⟨k + 1, by omega, by go_num, hb2, by rw [take_succ_of HV.out, List.map_append]; exact ho2⟩
      case measure => simp [intOf]; omega
    · have hk' : k = xs.length := by rw [← HN.out]; omega
      go_wp2_with fail
      go_ret
      have := HO.out
      rw [hk', List.take_length] at this
      exact this.retI hb
end Go.Proofs.YtkhgaenffnoimaaGreatDoor
