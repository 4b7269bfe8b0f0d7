/- Values in memory, and every of the reference. -/
import Derived.Test.YtkhgaenffnoimaaGreatDoorA0
import Derived.Maps.AppendAt
set_option linter.unusedSimpArgs false
set_option linter.unusedVariables false
namespace Go.Proofs.YtkhgaenffnoimaaGreatDoor
open Go.RowKit
attribute [local go_sem] run_store_float

/-- A value of the reference without rows. -/
structure V where
  k : Int
  n : Int
  d : Int
  t : ByteArray
structure VCell (w : World) (g j : Nat) (v : V) : Prop where
  c0 : w.cell? ⟨g, j * 5, none⟩ = some (.int .i64 v.k)
  c1 : w.cell? ⟨g, j * 5 + 1, none⟩ = some (.int .i64 v.n)
  c2 : w.cell? ⟨g, j * 5 + 2, none⟩ = some (.int .i64 v.d)
  c3 : w.cell? ⟨g, j * 5 + 3, none⟩ = some (.string v.t)
  c4 : w.cell? ⟨g, j * 5 + 4, none⟩ = some (.slice none 0 0)
/-- A slice at A reads as xs. -/
def VRow (w : World) (A : Option Addr) (xs : List V) : Prop := xs = [] ∨ ∃ g, A = some ⟨g, 0, none⟩ ∧ g < w.heap.size ∧ ∀ j v, xs[j]? = some v → VCell w g j v
theorem VCell.below {w w1 : World} {g j : Nat} {v : V} (h : VCell w g j v) (hb : Below w.heap.size w w1) (hg : g < w.heap.size) : VCell w1 g j v :=
  ⟨(hb.cell (p := ⟨g, _, none⟩) hg).trans h.c0, (hb.cell (p := ⟨g, _, none⟩) hg).trans h.c1, (hb.cell (p := ⟨g, _, none⟩) hg).trans h.c2, (hb.cell (p := ⟨g, _, none⟩) hg).trans h.c3, (hb.cell (p := ⟨g, _, none⟩) hg).trans h.c4⟩
theorem VRow.below {w w1 : World} {A : Option Addr} {xs : List V} (h : VRow w A xs) (hb : Below w.heap.size w w1) : VRow w1 A xs := by
  rcases h with h | ⟨g, rfl, hg, hc⟩
  · exact .inl h
  · exact .inr ⟨g, rfl, Nat.lt_of_lt_of_le hg hb.size, fun j v hj => (hc j v hj).below hb hg⟩

end Go.Proofs.YtkhgaenffnoimaaGreatDoor
/- append onto a slice of the call's own, of cells of any size. -/
set_option linter.unusedSimpArgs false
set_option linter.unusedVariables false
namespace Go.Proofs.YtkhgaenffnoimaaGreatDoor
open Go.RowKit
attribute [local go_sem] run_store_float

/-- A slice at A reads as the rows xs, each of sz cells. -/
def CRow (w : World) (A : Option Addr) (sz : Nat) (xs : List (List Value)) : Prop :=
  xs = [] ∨ ∃ g, A = some ⟨g, 0, none⟩ ∧ g < w.heap.size ∧ ∀ j c, xs[j]? = some c → ∀ i u, c[i]? = some u → w.cell? ⟨g, j * sz + i, none⟩ = some u
theorem CRow.below {w w1 : World} {A : Option Addr} {sz : Nat} {xs : List (List Value)} (h : CRow w A sz xs) (hb : Below w.heap.size w w1) : CRow w1 A sz xs := by
  rcases h with h | ⟨g, rfl, hg, hc⟩
  · exact .inl h
  · exact .inr ⟨g, rfl, Nat.lt_of_lt_of_le hg hb.size, fun j c hj i u hi => (hb.cell (p := ⟨g, _, none⟩) hg).trans (hc j c hj i u hi)⟩
/-- The call's own slice v holds the rows xs; own: from the world w0 on. -/
def Own (w0 W : World) (e : TypeId) (sz : Nat) (v : Value) (xs : List (List Value)) : Prop :=
  W.ownsRow w0.heap.size e sz v xs.length xs.flatten ∧ ∀ c, c ∈ xs → c.length = sz
theorem own_nil (w0 W : World) (e : TypeId) (sz : Nat) : Own w0 W e sz (.slice none 0 0) [] := ⟨World.ownsRow_nil _ _ _ _, fun _ h => (nomatch h)⟩
theorem Own.below {w0 W W1 : World} {e : TypeId} {sz : Nat} {v : Value} {xs : List (List Value)} (h : Own w0 W e sz v xs) (hb : Below W.heap.size W W1) : Own w0 W1 e sz v xs := by
  refine ⟨⟨h.1.1, ?_⟩, h.2⟩
  rcases h.1.2 with hn | ⟨g, cap, cur, rfl, hbb, hg, rest⟩
  · exact .inl hn
  · exact .inr ⟨g, cap, cur, rfl, hbb, (hb.block g (Array.getElem?_eq_some_iff.1 hg).1).trans hg, rest⟩
theorem flatten_at {sz : Nat} : ∀ (xs : List (List Value)), (∀ c, c ∈ xs → c.length = sz) → ∀ (j : Nat) (c : List Value), xs[j]? = some c → ∀ (i : Nat) (u : Value), c[i]? = some u → xs.flatten[j * sz + i]? = some u
  | [], _, j, c, h => by simp at h
  | x :: xs, hl, 0, c, h => by
    intro i u hu
    simp at h
    subst h
    rw [List.flatten_cons, Nat.zero_mul, Nat.zero_add, List.getElem?_append_left (List.getElem?_eq_some_iff.1 hu).1]
    exact hu
  | x :: xs, hl, j + 1, c, h => by
    intro i u hu
    have hx : x.length = sz := hl x (by simp)
    rw [List.flatten_cons, List.getElem?_append_right (by rw [hx, Nat.succ_mul]; omega), hx]
    have := flatten_at xs (fun c hc => hl c (by simp [hc])) j c (by simpa using h) i u hu
    have e : (j + 1) * sz + i - sz = j * sz + i := by rw [show (j + 1) * sz = j * sz + sz from Nat.succ_mul j sz]; omega
    rw [e]
    exact this
theorem Own.row {w0 W : World} {e : TypeId} {sz : Nat} {v : Value} {xs : List (List Value)} (h : Own w0 W e sz v xs) : ∃ A c, v = .slice A xs.length c ∧ CRow W A sz xs := by
  rcases h.1.2 with ⟨rfl, hn⟩ | ⟨g, cap, cur, rfl, hbb, hg, rest⟩
  · refine ⟨none, 0, by rw [hn], .inl (List.eq_nil_of_length_eq_zero hn)⟩
  · refine ⟨_, cap, rfl, .inr ⟨g, rfl, (Array.getElem?_eq_some_iff.1 hg).1, fun j c hj i u hu => ?_⟩⟩
    rw [← addr0]
    exact h.1.cells (g := g) rfl _ _ (flatten_at xs h.2 j c hj i u hu)
section
variable {P : Program} {ops : Array Oper} {rest : List Oper} {o : Oper} {a : Act} {Q : Exit → Act → World → Prop}
theorem app1 {w0 W : World} (hgd : o.guard = none) (s x : Operand) (t e : TypeId) (z : Value) (sz bytes : Nat)
    (ho : o.op = .call { callee := .builtin .append, args := #[s, x], argTypes := #[t, t] })
    (ht : P.underlying t = some (.slice e)) (hinfo : (P.info? e).map (fun i => (i.zero, i.size, i.bytes)) = some (some z, sz, bytes)) (hz : z.cells.size = sz) (hs0 : 0 < sz) (hb0 : 0 < bytes)
    (v : Value) (xs : List (List Value)) (ys : List Value) (hs : a.eval s = v) (hx : a.eval x = .slice (some ⟨W.heap.size, 0, none⟩) 1 1) (hys : ys.length = sz) (h1 : ∀ u ∈ ys, u.oneCell' = true)
    (HO : Own w0 W e sz v xs) (HB : Below w0.heap.size w0 W) (hl : (xs.length + 1) * bytes ≤ 140737488355328)
    (h : ∀ v1 w1, Own w0 w1 e sz v1 (xs ++ [ys]) → Below w0.heap.size w0 w1 → wpList P ops Q rest (a.put o.dst v1) w1) :
    wpList P ops Q (o :: rest) a (W.alloc (.cells ys.toArray e)) := by
  obtain ⟨i0, hi, hzz⟩ := Option.map_eq_some_iff.1 hinfo
  simp only [Prod.mk.injEq] at hzz
  obtain ⟨hz0, hz1, hz2⟩ := hzz
  have hlen : xs.length + 1 ≤ 140737488355328 := Nat.le_trans (Nat.le_mul_of_pos_right _ hb0) hl
  refine wpList_append_own_at (W.alloc (.cells ys.toArray e)) hgd s x t ho w0.heap.size e i0 z sz bytes ht hi hz0 hz1 hz2 hz hs0 v xs.length xs.flatten hs (HO.1.alloc _) ⟨W.heap.size, 0, none⟩ 1 1 ys hx (by rw [hys]; simp)
    (fun j u hu => by rw [addr0, cell_of_row _ W.heap.size j ys.toArray e (0, 0) (heap_alloc_new W (.cells ys.toArray e))]; simpa using hu) h1 (by simp only [maxLen]; omega) hl (by have := HB.size; simp; omega) ?_
  intro v1 w1 hown hg _ _
  refine h v1 w1 ⟨?_, ?_⟩ ((HB.alloc HB.size _).grown hg (by have := HB.size; simp; omega) fun k hk => (HO.1.lt k hk).1)
  · simpa using hown
  · intro c hc
    rcases List.mem_append.1 hc with hc | hc
    · exact HO.2 c hc
    · simp at hc
      rw [hc, hys]
end
/-- The cells of a value. -/
def V.cells (v : V) : List Value := [.int .i64 v.k, .int .i64 v.n, .int .i64 v.d, .string v.t, .slice none 0 0]
theorem CRow.vrow {w : World} {A : Option Addr} {xs : List V} (h : CRow w A 5 (xs.map V.cells)) : VRow w A xs := by
  rcases h with h | ⟨g, rfl, hg, hc⟩
  · exact .inl (by simpa using h)
  · refine .inr ⟨g, rfl, hg, fun j v hv => ?_⟩
    have hj : (xs.map V.cells)[j]? = some v.cells := by rw [List.getElem?_map, hv]; rfl
    exact ⟨hc j _ hj 0 _ rfl, hc j _ hj 1 _ rfl, hc j _ hj 2 _ rfl, hc j _ hj 3 _ rfl, hc j _ hj 4 _ rfl⟩
theorem VRow.crow {w : World} {A : Option Addr} {xs : List V} (h : VRow w A xs) : CRow w A 5 (xs.map V.cells) := by
  rcases h with h | ⟨g, rfl, hg, hc⟩
  · exact .inl (by simpa using h)
  · refine .inr ⟨g, rfl, hg, fun j c hj => ?_⟩
    rw [List.getElem?_map] at hj
    obtain ⟨v, hv, rfl⟩ := Option.map_eq_some_iff.1 hj
    have := hc j v hv
    intro i u hu
    match i, hu with
    | 0, hu => cases hu; exact this.c0
    | 1, hu => cases hu; exact this.c1
    | 2, hu => cases hu; exact this.c2
    | 3, hu => cases hu; exact this.c3
    | 4, hu => cases hu; exact this.c4
/-- A new slice with the rows xs, all else as it was. -/
def RetS (w : World) (xs : List V) (e : Ending) (w' : World) : Prop := ∃ A c, e = .returned (.slice A xs.length c) ∧ VRow w' A xs ∧ Below w.heap.size w w'
theorem Own.retS {w0 W : World} {v : Value} {xs : List V} (h : Own w0 W 32 5 v (xs.map V.cells)) (hb : Below w0.heap.size w0 W) : RetS w0 xs (.returned v) W := by
  obtain ⟨A, c, rfl, hr⟩ := h.row
  exact ⟨A, c, by rw [List.length_map], hr.vrow, hb⟩
theorem Own.push {w0 W : World} {v : Value} {xs : List V} {y : V} (h : Own w0 W 32 5 v (xs.map V.cells ++ [y.cells])) : Own w0 W 32 5 v ((xs ++ [y]).map V.cells) := by simpa using h
end Go.Proofs.YtkhgaenffnoimaaGreatDoor
/- Flat of the reference. -/
set_option linter.unusedSimpArgs false
set_option linter.unusedVariables false
namespace Go.Proofs.YtkhgaenffnoimaaGreatDoor
open Go.RowKit
attribute [local go_sem] run_store_float
theorem under43 : Tryz.prog.underlying 43 = some (.slice 32) := by kernel_rfl
theorem info32 : (Tryz.prog.info? 32).map (fun i => (i.zero, i.size, i.bytes)) = some (some (.agg #[.int .i64 0, .int .i64 0, .int .i64 0, .string ⟨#[]⟩, .slice none 0 0]), 5, 64) := by kernel_rfl
theorem app27 {ops : Array Oper} {rest : List Oper} {o : Oper} {a : Act} {Q : Exit → Act → World → Prop} {w0 W : World} (v : Value) (xs : List V) (y : V) (s x : Operand) (hgd : o.guard = none)
    (ho : o.op = .call { callee := .builtin .append, args := #[s, x], argTypes := #[43, 43] })
    (hs : a.eval s = v) (hx : a.eval x = .slice (some ⟨W.heap.size, 0, none⟩) 1 1)
    (HO : Own w0 W 32 5 v (xs.map V.cells)) (HB : Below w0.heap.size w0 W) (hl : xs.length ≤ 100000)
    (h : ∀ v1 w1, Own w0 w1 32 5 v1 ((xs ++ [y]).map V.cells) → Below w0.heap.size w0 w1 → wpList Tryz.prog ops Q rest (a.put o.dst v1) w1) :
    wpList Tryz.prog ops Q (o :: rest) a (W.alloc (.cells #[.int .i64 y.k, .int .i64 y.n, .int .i64 y.d, .string y.t, .slice none 0 0] 32)) :=
  app1 (ys := y.cells) hgd s x 43 32 _ 5 64 ho under43 info32 rfl (by decide) (by decide) v (xs.map V.cells) hs hx rfl
    (by intro u hu; simp only [V.cells, List.mem_cons, List.not_mem_nil, or_false] at hu; rcases hu with rfl | rfl | rfl | rfl | rfl <;> rfl)
    HO HB (by rw [List.length_map]; omega) (fun v1 w1 h1 hb => h v1 w1 (by simpa using h1) hb)
theorem take_succ_of {α : Type} {xs : List α} {k : Nat} {v : α} (h : xs[k]? = some v) : xs.take (k + 1) = xs.take k ++ [v] := by
  rw [List.take_add_one, h]; rfl
end Go.Proofs.YtkhgaenffnoimaaGreatDoor
