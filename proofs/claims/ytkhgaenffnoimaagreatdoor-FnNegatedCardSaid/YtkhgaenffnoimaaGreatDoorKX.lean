/- The region of FnNegated that draws its order (printed by genreg8.py). -/
import Derived.Test.YtkhgaenffnoimaaGreatDoorM3
import Derived.Test.YtkhgaenffnoimaaGreatDoorKI
import Derived.Deep.RegionHeld
set_option linter.unusedSimpArgs false
set_option linter.unusedVariables false
namespace Go.Proofs.YtkhgaenffnoimaaGreatDoor
open Go.RowKit FL
attribute [local go_sem] run_store_float
/-- The operations of a region, by its number. -/
def regOps : Code → Nat → Option (Array Oper)
  | .region id ops _, n => if id == n then some ops else none
  | .seq a b, n => match regOps a n with
    | some x => some x
    | none => regOps b n
  | .cond _ a b, n => match regOps a n with
    | some x => some x
    | none => regOps b n
  | .block _ a, n => regOps a n
  | .loop a, n => regOps a n
  | .scope a, n => regOps a n
  | _, _ => none
/-- The operations of a region of a function's body. -/
def bodyOps (n : Nat) (b : Option Code) : Array Oper := match b with
  | some b => match regOps b n with
    | some x => x
    | none => #[]
  | none => #[]
/-- The frame ahead of the region, within it and behind it. -/
def A8 (f : Nat → Value) (sl : Value) (s0 s1 : ByteArray) (v9 v10 v32 v37 v38 v39 v41 v46 v47 v48 : Value) : Act :=
  { tmps := #[sl, f 1, f 2, f 3, f 4, f 5, f 6, f 7, f 8, v9, v10, f 11, f 12, f 13, f 14, f 15, f 16, f 17, f 18, f 19, f 20, f 21, f 22, f 23, f 24, f 25, f 26, f 27, f 28, f 29, f 30, sl, v32, f 33, f 34, f 35, .string s0, v37, v38, v39, sl, v41, f 42, f 43, f 44, .string s1, v46, v47, v48, f 49, f 50, f 51, f 52, f 53, f 54, f 55, f 56, f 57, f 58, f 59, f 60, f 61, f 62, f 63, f 64, f 65, f 66, f 67], defers := [] }
/-- Block g holds a table of the column ys and a text. -/
structure VT (W : World) (g n : Nat) (ys : List Int) (s : ByteArray) : Prop where
  lt : g < W.heap.size
  c : ∃ A c, Col W A 5 (ys.map fun k => (vN k).cells) ∧ W.cell? ⟨g, 0, none⟩ = some (.int .i64 5) ∧ W.cell? ⟨g, 1, none⟩ = some (.int .i64 0) ∧ W.cell? ⟨g, 2, none⟩ = some (.int .i64 0) ∧ W.cell? ⟨g, 3, none⟩ = some (.string ⟨#[]⟩) ∧ W.cell? ⟨g, 4, none⟩ = some (.slice A n c) ∧
    W.cell? ⟨g, 5, none⟩ = some (.int .i64 2) ∧ W.cell? ⟨g, 6, none⟩ = some (.int .i64 0) ∧ W.cell? ⟨g, 7, none⟩ = some (.int .i64 0) ∧ W.cell? ⟨g, 8, none⟩ = some (.string s) ∧ W.cell? ⟨g, 9, none⟩ = some (.slice none 0 0)
theorem VT.below {W W1 : World} {g n : Nat} {ys : List Int} {s : ByteArray} (h : VT W g n ys s) (hb : Below W.heap.size W W1) : VT W1 g n ys s := by
  obtain ⟨hl, A, c, h0, h1, h2, h3, h4, h5, h6, h7, h8, h9, h10⟩ := h
  have k : ∀ o, W1.cell? ⟨g, o, none⟩ = W.cell? ⟨g, o, none⟩ := fun o => hb.cell (p := ⟨g, o, none⟩) hl
  exact ⟨Nat.lt_of_lt_of_le hl hb.size, A, c, h0.below hb, (k 0).trans h1, (k 1).trans h2, (k 2).trans h3, (k 3).trans h4, (k 4).trans h5, (k 5).trans h6, (k 6).trans h7, (k 7).trans h8, (k 8).trans h9, (k 9).trans h10⟩
theorem vt_new (W : World) (A : Option Addr) (n c B : Nat) (ys : List Int) (s : ByteArray) (h : ColB B W A 5 (ys.map fun k => (vN k).cells)) :
    VT (W.alloc (.cells #[.int .i64 5, .int .i64 0, .int .i64 0, .string ⟨#[]⟩, .slice A n c, .int .i64 2, .int .i64 0, .int .i64 0, .string s, .slice none 0 0] 32)) W.heap.size n ys s :=
  ⟨by simp, A, c, h.col.below (by repeat (first | (with_reducible exact Below.refl _ _) | (with_reducible assumption) | ((with_reducible refine Below.alloc ?_ ?_ _); rotate_left; focus (first | exact Nat.le_refl _ | omega | (simp; done) | (simp; omega))) | ((with_reducible refine Below.setCell ?_ ?_ _); rotate_left; focus (first | exact Nat.le_refl _ | omega | (simp; done) | (simp; omega))) | (with_reducible refine Below.drew ?_) | (with_reducible refine below_drewN ?_ _) | ((with_reducible refine below_via (by assumption) ?_ ?_); focus (first | exact Nat.le_refl _ | omega | (simp; done) | (simp; omega))))), by simp [go_sem], by simp [go_sem], by simp [go_sem], by simp [go_sem], by simp [go_sem], by simp [go_sem], by simp [go_sem], by simp [go_sem], by simp [go_sem], by simp [go_sem]⟩
set_option maxRecDepth 100000 in
set_option maxHeartbeats 1000000 in
theorem c17t (t : ByteArray) (w : World) : Calls Tryz.prog 17 #[.string t] w (Ret w (.agg #[.int .i64 2, .int .i64 0, .int .i64 0, .string t, .slice none 0 0])) := by
  go_enter Tryz.func17, Tryz.ntmps17
  go_wp2_with fail
  exact bodyPost_ret (v := .agg #[.int .i64 2, .int .i64 0, .int .i64 0, .string t, .slice none 0 0]) (by first | (simp [results, Tryz.results17, go_sem, hc1, hz1]; done) | (simp [results, Tryz.results17, go_sem]; done) | (simp [results, Tryz.results17, go_sem, *]; done)) rfl (ret_mk (by repeat (first | (with_reducible exact Below.refl _ _) | (with_reducible assumption) | ((with_reducible refine Below.alloc ?_ ?_ _); rotate_left; focus (first | exact Nat.le_refl _ | omega | (simp; done) | (simp; omega))) | ((with_reducible refine Below.setCell ?_ ?_ _); rotate_left; focus (first | exact Nat.le_refl _ | omega | (simp; done) | (simp; omega))) | (with_reducible refine Below.drew ?_) | (with_reducible refine below_drewN ?_ _) | ((with_reducible refine below_via (by assumption) ?_ ?_); focus (first | exact Nat.le_refl _ | omega | (simp; done) | (simp; omega))))))
/-- What the region's calls answer. -/
structure K8 (w : World) (sl : Value) (n : Nat) (ys : List Int) (s0 s1 : ByteArray) (b0 b1 : Nat) : Prop where
  h10 : ∀ W, Below w.heap.size w W → Calls Tryz.prog 10 #[sl] W (fun e w' => ∃ A' c', e = .returned (.agg #[.int .i64 5, .int .i64 0, .int .i64 0, .string ⟨#[]⟩, .slice A' n c']) ∧ ColB W.heap.size w' A' 5 (ys.map fun k => (vN k).cells) ∧ Below W.heap.size W w')
  h80 : ∀ W g, Below w.heap.size w W → VT W g n ys s0 → Calls Tryz.prog 8 #[.func (.func 16) #[] #[], .slice (some ⟨g, 0, none⟩) 2 2] W (Ret W (.agg #[.int .i64 1, .float .f64 b0, .string ⟨#[]⟩, .slice none 0 0]))
  h81 : ∀ W g, Below w.heap.size w W → VT W g n ys s1 → Calls Tryz.prog 8 #[.func (.func 16) #[] #[], .slice (some ⟨g, 0, none⟩) 2 2] W (Ret W (.agg #[.int .i64 1, .float .f64 b1, .string ⟨#[]⟩, .slice none 0 0]))
/-- The blocks of the two results, as far as they are made. -/
structure FL8 (w : World) (x y : Bool) (v9 v10 : Value) (W : World) : Prop where
  bel : Below w.heap.size w W
  a9 : x = true → ∃ g, v9 = .pointer (some ⟨g, 0, none⟩) ∧ w.heap.size ≤ g ∧ ZI W g
  a10 : y = true → ∃ g, v10 = .pointer (some ⟨g, 0, none⟩) ∧ w.heap.size ≤ g ∧ ZI W g
  ne : x = true → y = true → v9 ≠ v10
theorem FL8.below {w W W1 : World} {x y : Bool} {v9 v10 : Value} (h : FL8 w x y v9 v10 W) (hb : Below W.heap.size W W1) : FL8 w x y v9 v10 W1 :=
  ⟨keepS hb h.bel, fun e => (h.a9 e).imp fun g k => ⟨k.1, k.2.1, k.2.2.below hb⟩, fun e => (h.a10 e).imp fun g k => ⟨k.1, k.2.1, k.2.2.below hb⟩, h.ne⟩
theorem ptr_ne {a b : Nat} (h : a ≠ b) : (Value.pointer (some ⟨a, 0, none⟩)) ≠ .pointer (some ⟨b, 0, none⟩) := fun e => h (congrArg Addr.block (Option.some.inj (Value.pointer.inj e)))
theorem FL8.mk9 {w W : World} {y : Bool} {v9 v10 : Value} (h : FL8 w false y v9 v10 W) : FL8 w true y (.pointer (some ⟨W.heap.size, 0, none⟩)) v10 (W.alloc (.cells #[.int .i64 0, .float .f64 0, .string ⟨#[]⟩, .slice none 0 0] 27)) :=
  ⟨h.bel.alloc h.bel.size _, fun _ => ⟨_, rfl, h.bel.size, zi_new W 27⟩, fun e => (h.a10 e).imp fun g k => ⟨k.1, k.2.1, k.2.2.below (by repeat (first | (with_reducible exact Below.refl _ _) | (with_reducible assumption) | ((with_reducible refine Below.alloc ?_ ?_ _); rotate_left; focus (first | exact Nat.le_refl _ | omega | (simp; done) | (simp; omega))) | ((with_reducible refine Below.setCell ?_ ?_ _); rotate_left; focus (first | exact Nat.le_refl _ | omega | (simp; done) | (simp; omega))) | (with_reducible refine Below.drew ?_) | (with_reducible refine below_drewN ?_ _) | ((with_reducible refine below_via (by assumption) ?_ ?_); focus (first | exact Nat.le_refl _ | omega | (simp; done) | (simp; omega)))))⟩, fun _ e => by
    obtain ⟨g, h1, _, h3⟩ := h.a10 e
    rw [h1]
    exact ptr_ne (by have := h3.lt; omega)⟩
theorem FL8.mk10 {w W : World} {x : Bool} {v9 v10 : Value} (h : FL8 w x false v9 v10 W) : FL8 w x true v9 (.pointer (some ⟨W.heap.size, 0, none⟩)) (W.alloc (.cells #[.int .i64 0, .float .f64 0, .string ⟨#[]⟩, .slice none 0 0] 27)) :=
  ⟨h.bel.alloc h.bel.size _, fun e => (h.a9 e).imp fun g k => ⟨k.1, k.2.1, k.2.2.below (by repeat (first | (with_reducible exact Below.refl _ _) | (with_reducible assumption) | ((with_reducible refine Below.alloc ?_ ?_ _); rotate_left; focus (first | exact Nat.le_refl _ | omega | (simp; done) | (simp; omega))) | ((with_reducible refine Below.setCell ?_ ?_ _); rotate_left; focus (first | exact Nat.le_refl _ | omega | (simp; done) | (simp; omega))) | (with_reducible refine Below.drew ?_) | (with_reducible refine below_drewN ?_ _) | ((with_reducible refine below_via (by assumption) ?_ ?_); focus (first | exact Nat.le_refl _ | omega | (simp; done) | (simp; omega)))))⟩, fun _ => ⟨_, rfl, h.bel.size, zi_new W 27⟩, fun e _ => by
    obtain ⟨g, h1, _, h3⟩ := h.a9 e
    rw [h1]
    exact ptr_ne (by have := h3.lt; omega)⟩
/-- How far the chain of the calls has come. -/
def CH (n : Nat) (ys : List Int) (s0 s1 : ByteArray) (b0 b1 : Nat) (v32 v37 v38 v39 v41 v46 v47 v48 : Value) (W : World) (k : Nat) : Prop :=
  match k with
  | 0 => True
  | 1 => ∃ A c B, v32 = .agg #[.int .i64 5, .int .i64 0, .int .i64 0, .string ⟨#[]⟩, .slice A n c] ∧ ColB B W A 5 (ys.map fun k => (vN k).cells)
  | 2 => v37 = .agg #[.int .i64 2, .int .i64 0, .int .i64 0, .string s0, .slice none 0 0] ∧ ∃ A c B, v32 = .agg #[.int .i64 5, .int .i64 0, .int .i64 0, .string ⟨#[]⟩, .slice A n c] ∧ ColB B W A 5 (ys.map fun k => (vN k).cells)
  | 3 => ∃ g, v38 = .slice (some ⟨g, 0, none⟩) 2 2 ∧ VT W g n ys s0
  | 4 => v39 = .agg #[.int .i64 1, .float .f64 b0, .string ⟨#[]⟩, .slice none 0 0]
  | 5 => v39 = .agg #[.int .i64 1, .float .f64 b0, .string ⟨#[]⟩, .slice none 0 0] ∧ ∃ A c B, v41 = .agg #[.int .i64 5, .int .i64 0, .int .i64 0, .string ⟨#[]⟩, .slice A n c] ∧ ColB B W A 5 (ys.map fun k => (vN k).cells)
  | 6 => v39 = .agg #[.int .i64 1, .float .f64 b0, .string ⟨#[]⟩, .slice none 0 0] ∧ v46 = .agg #[.int .i64 2, .int .i64 0, .int .i64 0, .string s1, .slice none 0 0] ∧ ∃ A c B, v41 = .agg #[.int .i64 5, .int .i64 0, .int .i64 0, .string ⟨#[]⟩, .slice A n c] ∧ ColB B W A 5 (ys.map fun k => (vN k).cells)
  | 7 => v39 = .agg #[.int .i64 1, .float .f64 b0, .string ⟨#[]⟩, .slice none 0 0] ∧ ∃ g, v47 = .slice (some ⟨g, 0, none⟩) 2 2 ∧ VT W g n ys s1
  | _ => v39 = .agg #[.int .i64 1, .float .f64 b0, .string ⟨#[]⟩, .slice none 0 0] ∧ v48 = .agg #[.int .i64 1, .float .f64 b1, .string ⟨#[]⟩, .slice none 0 0]
theorem CH.below {n : Nat} {ys : List Int} {s0 s1 : ByteArray} {b0 b1 : Nat} {v32 v37 v38 v39 v41 v46 v47 v48 : Value} {W W1 : World} {k : Nat} (h : CH n ys s0 s1 b0 b1 v32 v37 v38 v39 v41 v46 v47 v48 W k) (hb : Below W.heap.size W W1) : CH n ys s0 s1 b0 b1 v32 v37 v38 v39 v41 v46 v47 v48 W1 k := by
  match k, h with
  | 0, h => trivial
  | 1, ⟨A, c, B, h1, h2⟩ => exact ⟨A, c, B, h1, h2.below hb⟩
  | 2, ⟨h0, A, c, B, h1, h2⟩ => exact ⟨h0, A, c, B, h1, h2.below hb⟩
  | 3, ⟨g, h1, h2⟩ => exact ⟨g, h1, h2.below hb⟩
  | 4, h => exact h
  | 5, ⟨h0, A, c, B, h1, h2⟩ => exact ⟨h0, A, c, B, h1, h2.below hb⟩
  | 6, ⟨h0, h9, A, c, B, h1, h2⟩ => exact ⟨h0, h9, A, c, B, h1, h2.below hb⟩
  | 7, ⟨h0, g, h1, h2⟩ => exact ⟨h0, g, h1, h2.below hb⟩
  | _ + 8, h => exact h
theorem wpOp_call {ops : Array Oper} {i : Nat} {o : Oper} {a : Act} {W : World} {Q : Exit → Act → World → Prop} {K : Act → World → Prop} (ho : ops[i]? = some o) (F : Nat) (tys : Array TypeId) (args : Array Operand) (vals : Array Value) (h1 : o.op = .call { callee := .value (.func F), args := args, argTypes := tys }) (h3 : o.guard = none)
    (hv : args.map a.eval = vals) (hent : (callFunc F vals).run Tryz.prog W = .ok (.enter F vals) W) (hC : Calls Tryz.prog F vals W (fun e w' => ∃ v, e = .returned v ∧ K (a.put o.dst v) w')) : wpOp Tryz.prog ops Q i K a W := by
  refine wpOp_step ho fun K' hK' => ?_
  have hw : Region.wanted o (yielded ops a.tmps) = true := by simp [Region.wanted, h3]
  rw [if_pos hw]
  unfold Oper.wp
  have hr : (execOp a.eval o).run Tryz.prog W = .ok (.enter F vals) W := by
    rw [← hent, ← hv]
    simp [execOp, h1, resolve, invoke, Deferred.ofValue, Act.eval]
  rw [hr]
  refine hC.mono ?_
  rintro e w' ⟨v, rfl, hk⟩
  exact hK' _ _ hk
theorem wpOp_val {ops : Array Oper} {i : Nat} {o : Oper} {a : Act} {W W' : World} {v : Value} {Q : Exit → Act → World → Prop} {K : Act → World → Prop} (ho : ops[i]? = some o) (h3 : o.guard = none)
    (hr : (execOp a.eval o).run Tryz.prog W = .ok (.value v) W') (hK : K (a.put o.dst v) W') : wpOp Tryz.prog ops Q i K a W := by
  refine wpOp_step ho fun K' hK' => ?_
  have hw : Region.wanted o (yielded ops a.tmps) = true := by simp [Region.wanted, h3]
  rw [if_pos hw]
  unfold Oper.wp
  rw [hr]
  exact hK' _ _ hK
theorem wpOp_skip {ops : Array Oper} {i : Nat} {o : Oper} {a : Act} {W W' : World} {Q : Exit → Act → World → Prop} {K : Act → World → Prop} (ho : ops[i]? = some o) (h3 : o.guard = none)
    (hr : (execOp a.eval o).run Tryz.prog W = .ok .skip W') (hK : K (a.put o.dst undef) W') : wpOp Tryz.prog ops Q i K a W := by
  refine wpOp_step ho fun K' hK' => ?_
  have hw : Region.wanted o (yielded ops a.tmps) = true := by simp [Region.wanted, h3]
  rw [if_pos hw]
  unfold Oper.wp
  rw [hr]
  exact hK' _ _ hK
theorem op8_call10 : (∃ o, (bodyOps 8 Tryz.f4.body)[1]? = some o ∧ o.op = .call { callee := .value (.func 10), args := #[.tmp 31], argTypes := #[22] } ∧ o.guard = none ∧ o.dst = some 32) ∧ (∃ o, (bodyOps 8 Tryz.f4.body)[10]? = some o ∧ o.op = .call { callee := .value (.func 10), args := #[.tmp 40], argTypes := #[22] } ∧ o.guard = none ∧ o.dst = some 41) :=
  ⟨⟨_, rfl, by kernel_rfl, by kernel_rfl, by kernel_rfl⟩, ⟨_, rfl, by kernel_rfl, by kernel_rfl, by kernel_rfl⟩⟩
theorem op8_call17 : (∃ o, (bodyOps 8 Tryz.f4.body)[6]? = some o ∧ o.op = .call { callee := .value (.func 17), args := #[.tmp 36], argTypes := #[9] } ∧ o.guard = none ∧ o.dst = some 37) ∧ (∃ o, (bodyOps 8 Tryz.f4.body)[15]? = some o ∧ o.op = .call { callee := .value (.func 17), args := #[.tmp 45], argTypes := #[9] } ∧ o.guard = none ∧ o.dst = some 46) :=
  ⟨⟨_, rfl, by kernel_rfl, by kernel_rfl, by kernel_rfl⟩, ⟨_, rfl, by kernel_rfl, by kernel_rfl, by kernel_rfl⟩⟩
theorem op8_call8 : (∃ o, (bodyOps 8 Tryz.f4.body)[8]? = some o ∧ o.op = .call { callee := .value (.func 8), args := #[.func 16, .tmp 38], argTypes := #[29, 43] } ∧ o.guard = none ∧ o.dst = some 39) ∧ (∃ o, (bodyOps 8 Tryz.f4.body)[17]? = some o ∧ o.op = .call { callee := .value (.func 8), args := #[.func 16, .tmp 47], argTypes := #[29, 43] } ∧ o.guard = none ∧ o.dst = some 48) :=
  ⟨⟨_, rfl, by kernel_rfl, by kernel_rfl, by kernel_rfl⟩, ⟨_, rfl, by kernel_rfl, by kernel_rfl, by kernel_rfl⟩⟩
theorem op8_slice : (∃ o, (bodyOps 8 Tryz.f4.body)[7]? = some o ∧ o.op = .buildSlice 43 2 #[(0, .tmp 32), (1, .tmp 37)] ∧ o.guard = none ∧ o.dst = some 38) ∧ (∃ o, (bodyOps 8 Tryz.f4.body)[16]? = some o ∧ o.op = .buildSlice 43 2 #[(0, .tmp 41), (1, .tmp 46)] ∧ o.guard = none ∧ o.dst = some 47) :=
  ⟨⟨_, rfl, by kernel_rfl, by kernel_rfl, by kernel_rfl⟩, ⟨_, rfl, by kernel_rfl, by kernel_rfl, by kernel_rfl⟩⟩
theorem op8_alloc : (∃ o, (bodyOps 8 Tryz.f4.body)[18]? = some o ∧ o.op = .alloc 27 ∧ o.guard = none ∧ o.dst = some 9) ∧ (∃ o, (bodyOps 8 Tryz.f4.body)[19]? = some o ∧ o.op = .alloc 27 ∧ o.guard = none ∧ o.dst = some 10) :=
  ⟨⟨_, rfl, by kernel_rfl, by kernel_rfl, by kernel_rfl⟩, ⟨_, rfl, by kernel_rfl, by kernel_rfl, by kernel_rfl⟩⟩
theorem op8_store : (∃ o, (bodyOps 8 Tryz.f4.body)[20]? = some o ∧ o.op = .store 27 (.tmp 9) (.tmp 39) ∧ o.guard = none ∧ o.dst = none) ∧ (∃ o, (bodyOps 8 Tryz.f4.body)[21]? = some o ∧ o.op = .store 27 (.tmp 10) (.tmp 48) ∧ o.guard = none ∧ o.dst = none) :=
  ⟨⟨_, rfl, by kernel_rfl, by kernel_rfl, by kernel_rfl⟩, ⟨_, rfl, by kernel_rfl, by kernel_rfl, by kernel_rfl⟩⟩
set_option maxRecDepth 100000 in
set_option maxHeartbeats 1000000 in
theorem st8_1 {w W : World} {f : Nat → Value} {sl : Value} {n : Nat} {ys : List Int} {s0 s1 : ByteArray} {b0 b1 : Nat} {x y : Bool} {v9 v10 v32 v37 v38 v39 v41 v46 v47 v48 : Value} {Q : Exit → Act → World → Prop} {K : Act → World → Prop} (H : K8 w sl n ys s0 s1 b0 b1) (hF : FL8 w x y v9 v10 W) (hC : CH n ys s0 s1 b0 b1 v32 v37 v38 v39 v41 v46 v47 v48 W 0)
    (hK : ∀ (v : Value) (W' : World), FL8 w x y v9 v10 W' → CH n ys s0 s1 b0 b1 v v37 v38 v39 v41 v46 v47 v48 W' 1 → K (A8 f sl s0 s1 v9 v10 v v37 v38 v39 v41 v46 v47 v48) W') : wpOp Tryz.prog (bodyOps 8 Tryz.f4.body) Q 1 K (A8 f sl s0 s1 v9 v10 v32 v37 v38 v39 v41 v46 v47 v48) W := by
  obtain ⟨o, ho, h1, h3, h4⟩ := op8_call10.1
  refine wpOp_call ho 10 _ _ #[sl] h1 h3 (by first | (simp [A8, Act.eval]; done) | (simp [A8, go_sem]; done)) (by simp [go_sem]) ?_
  refine (H.h10 W hF.bel).mono ?_
  rintro e W' ⟨A', c', rfl, hcol, hb⟩
  refine ⟨_, rfl, ?_⟩
  rw [h4]
  exact hK _ _ (hF.below hb) ⟨A', c', _, rfl, hcol⟩
set_option maxRecDepth 100000 in
set_option maxHeartbeats 1000000 in
theorem st8_6 {w W : World} {f : Nat → Value} {sl : Value} {n : Nat} {ys : List Int} {s0 s1 : ByteArray} {b0 b1 : Nat} {x y : Bool} {v9 v10 v32 v37 v38 v39 v41 v46 v47 v48 : Value} {Q : Exit → Act → World → Prop} {K : Act → World → Prop} (H : K8 w sl n ys s0 s1 b0 b1) (hF : FL8 w x y v9 v10 W) (hC : CH n ys s0 s1 b0 b1 v32 v37 v38 v39 v41 v46 v47 v48 W 1)
    (hK : ∀ (v : Value) (W' : World), FL8 w x y v9 v10 W' → CH n ys s0 s1 b0 b1 v32 v v38 v39 v41 v46 v47 v48 W' 2 → K (A8 f sl s0 s1 v9 v10 v32 v v38 v39 v41 v46 v47 v48) W') : wpOp Tryz.prog (bodyOps 8 Tryz.f4.body) Q 6 K (A8 f sl s0 s1 v9 v10 v32 v37 v38 v39 v41 v46 v47 v48) W := by
  obtain ⟨o, ho, h1, h3, h4⟩ := op8_call17.1
  refine wpOp_call ho 17 _ _ #[.string s0] h1 h3 (by first | (simp [A8, Act.eval]; done) | (simp [A8, go_sem]; done)) (by simp [go_sem]) ?_
  refine (c17t s0 W).mono ?_
  rintro e W' ⟨rfl, hb⟩
  refine ⟨_, rfl, ?_⟩
  rw [h4]
  exact hK _ _ (hF.below hb) ⟨rfl, CH.below (k := 1) hC hb⟩
set_option maxRecDepth 100000 in
set_option maxHeartbeats 1000000 in
theorem st8_7 {w W : World} {f : Nat → Value} {sl : Value} {n : Nat} {ys : List Int} {s0 s1 : ByteArray} {b0 b1 : Nat} {x y : Bool} {v9 v10 v32 v37 v38 v39 v41 v46 v47 v48 : Value} {Q : Exit → Act → World → Prop} {K : Act → World → Prop} (H : K8 w sl n ys s0 s1 b0 b1) (hF : FL8 w x y v9 v10 W) (hC : CH n ys s0 s1 b0 b1 v32 v37 v38 v39 v41 v46 v47 v48 W 2)
    (hK : ∀ (v : Value) (W' : World), FL8 w x y v9 v10 W' → CH n ys s0 s1 b0 b1 v32 v37 v v39 v41 v46 v47 v48 W' 3 → K (A8 f sl s0 s1 v9 v10 v32 v37 v v39 v41 v46 v47 v48) W') : wpOp Tryz.prog (bodyOps 8 Tryz.f4.body) Q 7 K (A8 f sl s0 s1 v9 v10 v32 v37 v38 v39 v41 v46 v47 v48) W := by
  obtain ⟨o, ho, h1, h3, h4⟩ := op8_slice.1
  obtain ⟨rfl, A, c, B, rfl, hcol⟩ := hC
  refine wpOp_val ho h3 (v := .slice (some ⟨W.heap.size, 0, none⟩) 2 2) (W' := W.alloc (.cells #[.int .i64 5, .int .i64 0, .int .i64 0, .string ⟨#[]⟩, .slice A n c, .int .i64 2, .int .i64 0, .int .i64 0, .string s0, .slice none 0 0] 32)) ?_ ?_
  · simp only [execOp, h1]
    unfold A8
    go_simp
  · rw [h4]
    exact hK _ _ (hF.below (by repeat (first | (with_reducible exact Below.refl _ _) | (with_reducible assumption) | ((with_reducible refine Below.alloc ?_ ?_ _); rotate_left; focus (first | exact Nat.le_refl _ | omega | (simp; done) | (simp; omega))) | ((with_reducible refine Below.setCell ?_ ?_ _); rotate_left; focus (first | exact Nat.le_refl _ | omega | (simp; done) | (simp; omega))) | (with_reducible refine Below.drew ?_) | (with_reducible refine below_drewN ?_ _) | ((with_reducible refine below_via (by assumption) ?_ ?_); focus (first | exact Nat.le_refl _ | omega | (simp; done) | (simp; omega)))))) ⟨_, rfl, vt_new W A n c B ys s0 hcol⟩
set_option maxRecDepth 100000 in
set_option maxHeartbeats 1000000 in
theorem st8_8 {w W : World} {f : Nat → Value} {sl : Value} {n : Nat} {ys : List Int} {s0 s1 : ByteArray} {b0 b1 : Nat} {x y : Bool} {v9 v10 v32 v37 v38 v39 v41 v46 v47 v48 : Value} {Q : Exit → Act → World → Prop} {K : Act → World → Prop} (H : K8 w sl n ys s0 s1 b0 b1) (hF : FL8 w x y v9 v10 W) (hC : CH n ys s0 s1 b0 b1 v32 v37 v38 v39 v41 v46 v47 v48 W 3)
    (hK : ∀ (v : Value) (W' : World), FL8 w x y v9 v10 W' → CH n ys s0 s1 b0 b1 v32 v37 v38 v v41 v46 v47 v48 W' 4 → K (A8 f sl s0 s1 v9 v10 v32 v37 v38 v v41 v46 v47 v48) W') : wpOp Tryz.prog (bodyOps 8 Tryz.f4.body) Q 8 K (A8 f sl s0 s1 v9 v10 v32 v37 v38 v39 v41 v46 v47 v48) W := by
  obtain ⟨o, ho, h1, h3, h4⟩ := op8_call8.1
  obtain ⟨g, rfl, hv⟩ := hC
  refine wpOp_call ho 8 _ _ #[.func (.func 16) #[] #[], .slice (some ⟨g, 0, none⟩) 2 2] h1 h3 (by first | (simp [A8, Act.eval]; done) | (simp [A8, go_sem]; done)) (by simp [go_sem]) ?_
  refine (H.h80 W g hF.bel hv).mono ?_
  rintro e W' ⟨rfl, hb⟩
  refine ⟨_, rfl, ?_⟩
  rw [h4]
  exact hK _ _ (hF.below hb) rfl
set_option maxRecDepth 100000 in
set_option maxHeartbeats 1000000 in
theorem st8_10 {w W : World} {f : Nat → Value} {sl : Value} {n : Nat} {ys : List Int} {s0 s1 : ByteArray} {b0 b1 : Nat} {x y : Bool} {v9 v10 v32 v37 v38 v39 v41 v46 v47 v48 : Value} {Q : Exit → Act → World → Prop} {K : Act → World → Prop} (H : K8 w sl n ys s0 s1 b0 b1) (hF : FL8 w x y v9 v10 W) (hC : CH n ys s0 s1 b0 b1 v32 v37 v38 v39 v41 v46 v47 v48 W 4)
    (hK : ∀ (v : Value) (W' : World), FL8 w x y v9 v10 W' → CH n ys s0 s1 b0 b1 v32 v37 v38 v39 v v46 v47 v48 W' 5 → K (A8 f sl s0 s1 v9 v10 v32 v37 v38 v39 v v46 v47 v48) W') : wpOp Tryz.prog (bodyOps 8 Tryz.f4.body) Q 10 K (A8 f sl s0 s1 v9 v10 v32 v37 v38 v39 v41 v46 v47 v48) W := by
  obtain ⟨o, ho, h1, h3, h4⟩ := op8_call10.2
  refine wpOp_call ho 10 _ _ #[sl] h1 h3 (by first | (simp [A8, Act.eval]; done) | (simp [A8, go_sem]; done)) (by simp [go_sem]) ?_
  refine (H.h10 W hF.bel).mono ?_
  rintro e W' ⟨A', c', rfl, hcol, hb⟩
  refine ⟨_, rfl, ?_⟩
  rw [h4]
  exact hK _ _ (hF.below hb) ⟨hC, A', c', _, rfl, hcol⟩
set_option maxRecDepth 100000 in
set_option maxHeartbeats 1000000 in
theorem st8_15 {w W : World} {f : Nat → Value} {sl : Value} {n : Nat} {ys : List Int} {s0 s1 : ByteArray} {b0 b1 : Nat} {x y : Bool} {v9 v10 v32 v37 v38 v39 v41 v46 v47 v48 : Value} {Q : Exit → Act → World → Prop} {K : Act → World → Prop} (H : K8 w sl n ys s0 s1 b0 b1) (hF : FL8 w x y v9 v10 W) (hC : CH n ys s0 s1 b0 b1 v32 v37 v38 v39 v41 v46 v47 v48 W 5)
    (hK : ∀ (v : Value) (W' : World), FL8 w x y v9 v10 W' → CH n ys s0 s1 b0 b1 v32 v37 v38 v39 v41 v v47 v48 W' 6 → K (A8 f sl s0 s1 v9 v10 v32 v37 v38 v39 v41 v v47 v48) W') : wpOp Tryz.prog (bodyOps 8 Tryz.f4.body) Q 15 K (A8 f sl s0 s1 v9 v10 v32 v37 v38 v39 v41 v46 v47 v48) W := by
  obtain ⟨o, ho, h1, h3, h4⟩ := op8_call17.2
  refine wpOp_call ho 17 _ _ #[.string s1] h1 h3 (by first | (simp [A8, Act.eval]; done) | (simp [A8, go_sem]; done)) (by simp [go_sem]) ?_
  refine (c17t s1 W).mono ?_
  rintro e W' ⟨rfl, hb⟩
  refine ⟨_, rfl, ?_⟩
  rw [h4]
  exact hK _ _ (hF.below hb) ⟨hC.1, rfl, hC.2.imp fun A k => k.imp fun c k => k.imp fun B k => ⟨k.1, k.2.below hb⟩⟩
set_option maxRecDepth 100000 in
set_option maxHeartbeats 1000000 in
theorem st8_16 {w W : World} {f : Nat → Value} {sl : Value} {n : Nat} {ys : List Int} {s0 s1 : ByteArray} {b0 b1 : Nat} {x y : Bool} {v9 v10 v32 v37 v38 v39 v41 v46 v47 v48 : Value} {Q : Exit → Act → World → Prop} {K : Act → World → Prop} (H : K8 w sl n ys s0 s1 b0 b1) (hF : FL8 w x y v9 v10 W) (hC : CH n ys s0 s1 b0 b1 v32 v37 v38 v39 v41 v46 v47 v48 W 6)
    (hK : ∀ (v : Value) (W' : World), FL8 w x y v9 v10 W' → CH n ys s0 s1 b0 b1 v32 v37 v38 v39 v41 v46 v v48 W' 7 → K (A8 f sl s0 s1 v9 v10 v32 v37 v38 v39 v41 v46 v v48) W') : wpOp Tryz.prog (bodyOps 8 Tryz.f4.body) Q 16 K (A8 f sl s0 s1 v9 v10 v32 v37 v38 v39 v41 v46 v47 v48) W := by
  obtain ⟨o, ho, h1, h3, h4⟩ := op8_slice.2
  obtain ⟨h39, rfl, A, c, B, rfl, hcol⟩ := hC
  refine wpOp_val ho h3 (v := .slice (some ⟨W.heap.size, 0, none⟩) 2 2) (W' := W.alloc (.cells #[.int .i64 5, .int .i64 0, .int .i64 0, .string ⟨#[]⟩, .slice A n c, .int .i64 2, .int .i64 0, .int .i64 0, .string s1, .slice none 0 0] 32)) ?_ ?_
  · simp only [execOp, h1]
    unfold A8
    go_simp
  · rw [h4]
    exact hK _ _ (hF.below (by repeat (first | (with_reducible exact Below.refl _ _) | (with_reducible assumption) | ((with_reducible refine Below.alloc ?_ ?_ _); rotate_left; focus (first | exact Nat.le_refl _ | omega | (simp; done) | (simp; omega))) | ((with_reducible refine Below.setCell ?_ ?_ _); rotate_left; focus (first | exact Nat.le_refl _ | omega | (simp; done) | (simp; omega))) | (with_reducible refine Below.drew ?_) | (with_reducible refine below_drewN ?_ _) | ((with_reducible refine below_via (by assumption) ?_ ?_); focus (first | exact Nat.le_refl _ | omega | (simp; done) | (simp; omega)))))) ⟨h39, _, rfl, vt_new W A n c B ys s1 hcol⟩
set_option maxRecDepth 100000 in
set_option maxHeartbeats 1000000 in
theorem st8_17 {w W : World} {f : Nat → Value} {sl : Value} {n : Nat} {ys : List Int} {s0 s1 : ByteArray} {b0 b1 : Nat} {x y : Bool} {v9 v10 v32 v37 v38 v39 v41 v46 v47 v48 : Value} {Q : Exit → Act → World → Prop} {K : Act → World → Prop} (H : K8 w sl n ys s0 s1 b0 b1) (hF : FL8 w x y v9 v10 W) (hC : CH n ys s0 s1 b0 b1 v32 v37 v38 v39 v41 v46 v47 v48 W 7)
    (hK : ∀ (v : Value) (W' : World), FL8 w x y v9 v10 W' → CH n ys s0 s1 b0 b1 v32 v37 v38 v39 v41 v46 v47 v W' 8 → K (A8 f sl s0 s1 v9 v10 v32 v37 v38 v39 v41 v46 v47 v) W') : wpOp Tryz.prog (bodyOps 8 Tryz.f4.body) Q 17 K (A8 f sl s0 s1 v9 v10 v32 v37 v38 v39 v41 v46 v47 v48) W := by
  obtain ⟨o, ho, h1, h3, h4⟩ := op8_call8.2
  obtain ⟨h39, g, rfl, hv⟩ := hC
  refine wpOp_call ho 8 _ _ #[.func (.func 16) #[] #[], .slice (some ⟨g, 0, none⟩) 2 2] h1 h3 (by first | (simp [A8, Act.eval]; done) | (simp [A8, go_sem]; done)) (by simp [go_sem]) ?_
  refine (H.h81 W g hF.bel hv).mono ?_
  rintro e W' ⟨rfl, hb⟩
  refine ⟨_, rfl, ?_⟩
  rw [h4]
  exact hK _ _ (hF.below hb) ⟨h39, rfl⟩
set_option maxRecDepth 100000 in
set_option maxHeartbeats 1000000 in
theorem st8_18 {w W : World} {f : Nat → Value} {sl : Value} {n : Nat} {ys : List Int} {s0 s1 : ByteArray} {b0 b1 : Nat} {y : Bool} {v9 v10 v32 v37 v38 v39 v41 v46 v47 v48 : Value} {Q : Exit → Act → World → Prop} {K : Act → World → Prop} (k : Nat) (hF : FL8 w false y v9 v10 W) (hC : CH n ys s0 s1 b0 b1 v32 v37 v38 v39 v41 v46 v47 v48 W k)
    (hK : ∀ (v : Value) (W' : World), FL8 w true y v v10 W' → CH n ys s0 s1 b0 b1 v32 v37 v38 v39 v41 v46 v47 v48 W' k → K (A8 f sl s0 s1 v v10 v32 v37 v38 v39 v41 v46 v47 v48) W') : wpOp Tryz.prog (bodyOps 8 Tryz.f4.body) Q 18 K (A8 f sl s0 s1 v9 v10 v32 v37 v38 v39 v41 v46 v47 v48) W := by
  obtain ⟨o, ho, h1, h3, h4⟩ := op8_alloc.1
  refine wpOp_val ho h3 (v := .pointer (some ⟨W.heap.size, 0, none⟩)) (W' := W.alloc (.cells #[.int .i64 0, .float .f64 0, .string ⟨#[]⟩, .slice none 0 0] 27)) ?_ ?_
  · simp only [execOp, h1]
    go_simp
  · rw [h4]
    exact hK _ _ hF.mk9 (hC.below (by repeat (first | (with_reducible exact Below.refl _ _) | (with_reducible assumption) | ((with_reducible refine Below.alloc ?_ ?_ _); rotate_left; focus (first | exact Nat.le_refl _ | omega | (simp; done) | (simp; omega))) | ((with_reducible refine Below.setCell ?_ ?_ _); rotate_left; focus (first | exact Nat.le_refl _ | omega | (simp; done) | (simp; omega))) | (with_reducible refine Below.drew ?_) | (with_reducible refine below_drewN ?_ _) | ((with_reducible refine below_via (by assumption) ?_ ?_); focus (first | exact Nat.le_refl _ | omega | (simp; done) | (simp; omega))))))
set_option maxRecDepth 100000 in
set_option maxHeartbeats 1000000 in
theorem st8_19 {w W : World} {f : Nat → Value} {sl : Value} {n : Nat} {ys : List Int} {s0 s1 : ByteArray} {b0 b1 : Nat} {x : Bool} {v9 v10 v32 v37 v38 v39 v41 v46 v47 v48 : Value} {Q : Exit → Act → World → Prop} {K : Act → World → Prop} (k : Nat) (hF : FL8 w x false v9 v10 W) (hC : CH n ys s0 s1 b0 b1 v32 v37 v38 v39 v41 v46 v47 v48 W k)
    (hK : ∀ (v : Value) (W' : World), FL8 w x true v9 v W' → CH n ys s0 s1 b0 b1 v32 v37 v38 v39 v41 v46 v47 v48 W' k → K (A8 f sl s0 s1 v9 v v32 v37 v38 v39 v41 v46 v47 v48) W') : wpOp Tryz.prog (bodyOps 8 Tryz.f4.body) Q 19 K (A8 f sl s0 s1 v9 v10 v32 v37 v38 v39 v41 v46 v47 v48) W := by
  obtain ⟨o, ho, h1, h3, h4⟩ := op8_alloc.2
  refine wpOp_val ho h3 (v := .pointer (some ⟨W.heap.size, 0, none⟩)) (W' := W.alloc (.cells #[.int .i64 0, .float .f64 0, .string ⟨#[]⟩, .slice none 0 0] 27)) ?_ ?_
  · simp only [execOp, h1]
    go_simp
  · rw [h4]
    exact hK _ _ hF.mk10 (hC.below (by repeat (first | (with_reducible exact Below.refl _ _) | (with_reducible assumption) | ((with_reducible refine Below.alloc ?_ ?_ _); rotate_left; focus (first | exact Nat.le_refl _ | omega | (simp; done) | (simp; omega))) | ((with_reducible refine Below.setCell ?_ ?_ _); rotate_left; focus (first | exact Nat.le_refl _ | omega | (simp; done) | (simp; omega))) | (with_reducible refine Below.drew ?_) | (with_reducible refine below_drewN ?_ _) | ((with_reducible refine below_via (by assumption) ?_ ?_); focus (first | exact Nat.le_refl _ | omega | (simp; done) | (simp; omega))))))
/-- The four cells of an answer of the implementation. -/
def iL (b : Nat) : List Value := [.int .i64 1, .float .f64 b, .string ⟨#[]⟩, .slice none 0 0]
theorem lb_of_zi {W : World} {g : Nat} (h : ZI W g) : LB W g [.int .i64 0, .float .f64 0, .string ⟨#[]⟩, .slice none 0 0] :=
  ⟨h.lt, fun j v hj => by
    match j, hj with
    | 0, hj => exact Option.some.inj hj ▸ h.c0
    | 1, hj => exact Option.some.inj hj ▸ h.c1
    | 2, hj => exact Option.some.inj hj ▸ h.c2
    | 3, hj => exact Option.some.inj hj ▸ h.c3, h.fr⟩
theorem LB.other {W : World} {g b o : Nat} {vs : List Value} {v : Value} (h : LB W g vs) (hn : g ≠ b) : LB (W.setCell ⟨b, o, none⟩ v) g vs :=
  ⟨by simpa using h.lt, fun j u hj => by rw [cell_other (fun e => hn e.1)]; exact h.c j u hj, fun j => by simpa [go_sem] using h.fr j⟩
/-- What the store of an answer leaves. -/
def put4 (W : World) (g b : Nat) : World := (((W.setCell ⟨g, 0, none⟩ (.int .i64 1)).setCell ⟨g, 1, none⟩ (.float .f64 b)).setCell ⟨g, 2, none⟩ (.string ⟨#[]⟩)).setCell ⟨g, 3, none⟩ (.slice none 0 0)
theorem put4_lb {W : World} {g b : Nat} {x0 x1 x2 x3 : Value} (h : LB W g [x0, x1, x2, x3]) : LB (put4 W g b) g (iL b) :=
  lb_set _ (lb_set _ (lb_set _ (lb_set _ h (by simp)) (by simp)) (by simp)) (by simp)
theorem put4_other {W : World} {g g' b : Nat} {vs : List Value} (h : LB W g vs) (hn : g ≠ g') : LB (put4 W g' b) g vs := (((h.other hn).other hn).other hn).other hn
theorem put4_below {w W : World} {g b : Nat} (h : Below w.heap.size w W) (hg : w.heap.size ≤ g) : Below w.heap.size w (put4 W g b) := (((h.setCell hg _).setCell hg _).setCell hg _).setCell hg _
set_option maxRecDepth 100000 in
set_option maxHeartbeats 1000000 in
theorem st8_20 {W : World} {f : Nat → Value} {sl : Value} {s0 s1 : ByteArray} {b0 : Nat} {v10 v32 v37 v38 v41 v46 v47 v48 : Value} {Q : Exit → Act → World → Prop} {K : Act → World → Prop} {g9 : Nat} {x0' : Int} {x1' : Nat} {x2' : ByteArray} (hz : LB W g9 [.int .i64 x0', .float .f64 x1', .string x2', .slice none 0 0])
    (hK : K (A8 f sl s0 s1 (.pointer (some ⟨g9, 0, none⟩)) v10 v32 v37 v38 (.agg #[.int .i64 1, .float .f64 b0, .string ⟨#[]⟩, .slice none 0 0]) v41 v46 v47 v48) (put4 W g9 b0)) : wpOp Tryz.prog (bodyOps 8 Tryz.f4.body) Q 20 K (A8 f sl s0 s1 (.pointer (some ⟨g9, 0, none⟩)) v10 v32 v37 v38 (.agg #[.int .i64 1, .float .f64 b0, .string ⟨#[]⟩, .slice none 0 0]) v41 v46 v47 v48) W := by
  obtain ⟨o, ho, h1, h3, h4⟩ := op8_store.1
  have z0 := hz.c 0 _ rfl
  have z1 := hz.c 1 _ rfl
  have z2 := hz.c 2 _ rfl
  have z3 := hz.c 3 _ rfl
  have zf := hz.fr
  refine wpOp_skip ho h3 (W' := put4 W g9 b0) ?_ ?_
  · simp only [execOp, h1]
    unfold A8 put4
    go_simp
  · rw [h4]
    exact hK
set_option maxRecDepth 100000 in
set_option maxHeartbeats 1000000 in
theorem st8_21 {W : World} {f : Nat → Value} {sl : Value} {s0 s1 : ByteArray} {b1 : Nat} {v9 v32 v37 v38 v39 v41 v46 v47 : Value} {Q : Exit → Act → World → Prop} {K : Act → World → Prop} {g10 : Nat} {x0' : Int} {x1' : Nat} {x2' : ByteArray} (hz : LB W g10 [.int .i64 x0', .float .f64 x1', .string x2', .slice none 0 0])
    (hK : K (A8 f sl s0 s1 v9 (.pointer (some ⟨g10, 0, none⟩)) v32 v37 v38 v39 v41 v46 v47 (.agg #[.int .i64 1, .float .f64 b1, .string ⟨#[]⟩, .slice none 0 0])) (put4 W g10 b1)) : wpOp Tryz.prog (bodyOps 8 Tryz.f4.body) Q 21 K (A8 f sl s0 s1 v9 (.pointer (some ⟨g10, 0, none⟩)) v32 v37 v38 v39 v41 v46 v47 (.agg #[.int .i64 1, .float .f64 b1, .string ⟨#[]⟩, .slice none 0 0])) W := by
  obtain ⟨o, ho, h1, h3, h4⟩ := op8_store.2
  have z0 := hz.c 0 _ rfl
  have z1 := hz.c 1 _ rfl
  have z2 := hz.c 2 _ rfl
  have z3 := hz.c 3 _ rfl
  have zf := hz.fr
  refine wpOp_skip ho h3 (W' := put4 W g10 b1) ?_ ?_
  · simp only [execOp, h1]
    unfold A8 put4
    go_simp
  · rw [h4]
    exact hK
/-- The cells that the region's loads read. -/
def SS (g8 : Nat) (o0 o1 : ByteArray) (W : World) : Prop := W.cell? ⟨g8, 0, none⟩ = some (.string o0) ∧ W.cell? ⟨g8, 1, none⟩ = some (.string o1)
theorem ss_below {w W : World} {g8 : Nat} {o0 o1 : ByteArray} (h : SS g8 o0 o1 w) (hg : g8 < w.heap.size) (hb : Below w.heap.size w W) : SS g8 o0 o1 W := ⟨(hb.cell (p := ⟨g8, 0, none⟩) hg).trans h.1, (hb.cell (p := ⟨g8, 1, none⟩) hg).trans h.2⟩
/-- What is asked of the rest, behind the region. -/
def End8 (w : World) (f : Nat → Value) (sl : Value) (s0 s1 : ByteArray) (b0 b1 : Nat) (Q : Exit → Act → World → Prop) : Prop :=
  ∀ (g9 g10 : Nat) (v32 v37 v38 v41 v46 v47 : Value) (W' : World), Below w.heap.size w W' → LB W' g9 (iL b0) → LB W' g10 (iL b1) → Q .normal (A8 f sl s0 s1 (.pointer (some ⟨g9, 0, none⟩)) (.pointer (some ⟨g10, 0, none⟩)) v32 v37 v38 (.agg #[.int .i64 1, .float .f64 b0, .string ⟨#[]⟩, .slice none 0 0]) v41 v46 v47 (.agg #[.int .i64 1, .float .f64 b1, .string ⟨#[]⟩, .slice none 0 0])) W'
theorem T8_811 {w : World} {f : Nat → Value} {sl : Value} {n : Nat} {ys : List Int} {s0 s1 : ByteArray} {b0 b1 g8 : Nat} {o0 o1 : ByteArray} {Q : Exit → Act → World → Prop} (H : K8 w sl n ys s0 s1 b0 b1) (hS : SS g8 o0 o1 w) (hg : g8 < w.heap.size) (hE : End8 w f sl s0 s1 b0 b1 Q) {v9 v10 v32 v37 v38 v39 v41 v46 v47 v48 : Value} {W : World} (hF : FL8 w true true v9 v10 W) (hC : CH n ys s0 s1 b0 b1 v32 v37 v38 v39 v41 v46 v47 v48 W 8) :
    wpAnyH Tryz.prog .any (bodyOps 8 Tryz.f4.body) Q (SS g8 o0 o1) 2 #[true, true, true, true, true, true, true, true, true, true, true, true, true, true, true, true, true, true, true, true, false, false] (A8 f sl s0 s1 v9 v10 v32 v37 v38 v39 v41 v46 v47 v48) W := by
  refine wpAnyH_all (rs := [20]) (by kernel_rfl) (by simp) ?_
  intro i hi
  simp only [List.mem_cons, List.not_mem_nil, or_false] at hi
  subst hi
  · obtain ⟨g9, rfl, hg9, hz9⟩ := hF.a9 rfl
    obtain ⟨g10, rfl, hg10, hz10⟩ := hF.a10 rfl
    have hne : g9 ≠ g10 := fun e => hF.ne rfl rfl (by rw [e])
    obtain ⟨rfl, rfl⟩ := hC
    have hb1 := put4_below (b := b0) hF.bel hg9
    have hb2 := put4_below (b := b1) hb1 hg10
    have hl9 := put4_lb (b := b0) (lb_of_zi hz9)
    have hl10 := put4_other (b := b0) (lb_of_zi hz10) (Ne.symm hne)
    refine st8_20 (lb_of_zi hz9) ⟨ss_below hS hg hb1, ?_⟩
    refine wpAnyH_all (rs := [21]) (by kernel_rfl) (by simp) ?_
    intro i hi
    simp only [List.mem_cons, List.not_mem_nil, or_false] at hi
    subst hi
    refine st8_21 hl10 ⟨ss_below hS hg hb2, ?_⟩
    exact wpAnyH_done (by kernel_rfl) (hE _ _ _ _ _ _ _ _ _ hb2 (put4_other hl9 hne) (put4_lb hl10)) _
theorem T8_810 {w : World} {f : Nat → Value} {sl : Value} {n : Nat} {ys : List Int} {s0 s1 : ByteArray} {b0 b1 g8 : Nat} {o0 o1 : ByteArray} {Q : Exit → Act → World → Prop} (H : K8 w sl n ys s0 s1 b0 b1) (hS : SS g8 o0 o1 w) (hg : g8 < w.heap.size) (hE : End8 w f sl s0 s1 b0 b1 Q) {v9 v10 v32 v37 v38 v39 v41 v46 v47 v48 : Value} {W : World} (hF : FL8 w true false v9 v10 W) (hC : CH n ys s0 s1 b0 b1 v32 v37 v38 v39 v41 v46 v47 v48 W 8) :
    wpAnyH Tryz.prog .any (bodyOps 8 Tryz.f4.body) Q (SS g8 o0 o1) 3 #[true, true, true, true, true, true, true, true, true, true, true, true, true, true, true, true, true, true, true, false, false, false] (A8 f sl s0 s1 v9 v10 v32 v37 v38 v39 v41 v46 v47 v48) W := by
  refine wpAnyH_all (rs := [19]) (by kernel_rfl) (by simp) ?_
  intro i hi
  simp only [List.mem_cons, List.not_mem_nil, or_false] at hi
  subst hi
  · exact st8_19 8 hF hC fun v W' hF' hC' => ⟨ss_below hS hg hF'.bel, T8_811 H hS hg hE hF' hC'⟩
theorem T8_801 {w : World} {f : Nat → Value} {sl : Value} {n : Nat} {ys : List Int} {s0 s1 : ByteArray} {b0 b1 g8 : Nat} {o0 o1 : ByteArray} {Q : Exit → Act → World → Prop} (H : K8 w sl n ys s0 s1 b0 b1) (hS : SS g8 o0 o1 w) (hg : g8 < w.heap.size) (hE : End8 w f sl s0 s1 b0 b1 Q) {v9 v10 v32 v37 v38 v39 v41 v46 v47 v48 : Value} {W : World} (hF : FL8 w false true v9 v10 W) (hC : CH n ys s0 s1 b0 b1 v32 v37 v38 v39 v41 v46 v47 v48 W 8) :
    wpAnyH Tryz.prog .any (bodyOps 8 Tryz.f4.body) Q (SS g8 o0 o1) 3 #[true, true, true, true, true, true, true, true, true, true, true, true, true, true, true, true, true, true, false, true, false, false] (A8 f sl s0 s1 v9 v10 v32 v37 v38 v39 v41 v46 v47 v48) W := by
  refine wpAnyH_all (rs := [18]) (by kernel_rfl) (by simp) ?_
  intro i hi
  simp only [List.mem_cons, List.not_mem_nil, or_false] at hi
  subst hi
  · exact st8_18 8 hF hC fun v W' hF' hC' => ⟨ss_below hS hg hF'.bel, T8_811 H hS hg hE hF' hC'⟩
theorem T8_800 {w : World} {f : Nat → Value} {sl : Value} {n : Nat} {ys : List Int} {s0 s1 : ByteArray} {b0 b1 g8 : Nat} {o0 o1 : ByteArray} {Q : Exit → Act → World → Prop} (H : K8 w sl n ys s0 s1 b0 b1) (hS : SS g8 o0 o1 w) (hg : g8 < w.heap.size) (hE : End8 w f sl s0 s1 b0 b1 Q) {v9 v10 v32 v37 v38 v39 v41 v46 v47 v48 : Value} {W : World} (hF : FL8 w false false v9 v10 W) (hC : CH n ys s0 s1 b0 b1 v32 v37 v38 v39 v41 v46 v47 v48 W 8) :
    wpAnyH Tryz.prog .any (bodyOps 8 Tryz.f4.body) Q (SS g8 o0 o1) 4 #[true, true, true, true, true, true, true, true, true, true, true, true, true, true, true, true, true, true, false, false, false, false] (A8 f sl s0 s1 v9 v10 v32 v37 v38 v39 v41 v46 v47 v48) W := by
  refine wpAnyH_all (rs := [18, 19]) (by kernel_rfl) (by simp) ?_
  intro i hi
  simp only [List.mem_cons, List.not_mem_nil, or_false] at hi
  rcases hi with rfl | rfl
  · exact st8_18 8 hF hC fun v W' hF' hC' => ⟨ss_below hS hg hF'.bel, T8_810 H hS hg hE hF' hC'⟩
  · exact st8_19 8 hF hC fun v W' hF' hC' => ⟨ss_below hS hg hF'.bel, T8_801 H hS hg hE hF' hC'⟩
theorem T8_711 {w : World} {f : Nat → Value} {sl : Value} {n : Nat} {ys : List Int} {s0 s1 : ByteArray} {b0 b1 g8 : Nat} {o0 o1 : ByteArray} {Q : Exit → Act → World → Prop} (H : K8 w sl n ys s0 s1 b0 b1) (hS : SS g8 o0 o1 w) (hg : g8 < w.heap.size) (hE : End8 w f sl s0 s1 b0 b1 Q) {v9 v10 v32 v37 v38 v39 v41 v46 v47 v48 : Value} {W : World} (hF : FL8 w true true v9 v10 W) (hC : CH n ys s0 s1 b0 b1 v32 v37 v38 v39 v41 v46 v47 v48 W 7) :
    wpAnyH Tryz.prog .any (bodyOps 8 Tryz.f4.body) Q (SS g8 o0 o1) 3 #[true, true, true, true, true, true, true, true, true, true, true, true, true, true, true, true, true, false, true, true, false, false] (A8 f sl s0 s1 v9 v10 v32 v37 v38 v39 v41 v46 v47 v48) W := by
  refine wpAnyH_all (rs := [17]) (by kernel_rfl) (by simp) ?_
  intro i hi
  simp only [List.mem_cons, List.not_mem_nil, or_false] at hi
  subst hi
  · exact st8_17 H hF hC fun v W' hF' hC' => ⟨ss_below hS hg hF'.bel, T8_811 H hS hg hE hF' hC'⟩
theorem T8_710 {w : World} {f : Nat → Value} {sl : Value} {n : Nat} {ys : List Int} {s0 s1 : ByteArray} {b0 b1 g8 : Nat} {o0 o1 : ByteArray} {Q : Exit → Act → World → Prop} (H : K8 w sl n ys s0 s1 b0 b1) (hS : SS g8 o0 o1 w) (hg : g8 < w.heap.size) (hE : End8 w f sl s0 s1 b0 b1 Q) {v9 v10 v32 v37 v38 v39 v41 v46 v47 v48 : Value} {W : World} (hF : FL8 w true false v9 v10 W) (hC : CH n ys s0 s1 b0 b1 v32 v37 v38 v39 v41 v46 v47 v48 W 7) :
    wpAnyH Tryz.prog .any (bodyOps 8 Tryz.f4.body) Q (SS g8 o0 o1) 4 #[true, true, true, true, true, true, true, true, true, true, true, true, true, true, true, true, true, false, true, false, false, false] (A8 f sl s0 s1 v9 v10 v32 v37 v38 v39 v41 v46 v47 v48) W := by
  refine wpAnyH_all (rs := [17, 19]) (by kernel_rfl) (by simp) ?_
  intro i hi
  simp only [List.mem_cons, List.not_mem_nil, or_false] at hi
  rcases hi with rfl | rfl
  · exact st8_17 H hF hC fun v W' hF' hC' => ⟨ss_below hS hg hF'.bel, T8_810 H hS hg hE hF' hC'⟩
  · exact st8_19 7 hF hC fun v W' hF' hC' => ⟨ss_below hS hg hF'.bel, T8_711 H hS hg hE hF' hC'⟩
theorem T8_701 {w : World} {f : Nat → Value} {sl : Value} {n : Nat} {ys : List Int} {s0 s1 : ByteArray} {b0 b1 g8 : Nat} {o0 o1 : ByteArray} {Q : Exit → Act → World → Prop} (H : K8 w sl n ys s0 s1 b0 b1) (hS : SS g8 o0 o1 w) (hg : g8 < w.heap.size) (hE : End8 w f sl s0 s1 b0 b1 Q) {v9 v10 v32 v37 v38 v39 v41 v46 v47 v48 : Value} {W : World} (hF : FL8 w false true v9 v10 W) (hC : CH n ys s0 s1 b0 b1 v32 v37 v38 v39 v41 v46 v47 v48 W 7) :
    wpAnyH Tryz.prog .any (bodyOps 8 Tryz.f4.body) Q (SS g8 o0 o1) 4 #[true, true, true, true, true, true, true, true, true, true, true, true, true, true, true, true, true, false, false, true, false, false] (A8 f sl s0 s1 v9 v10 v32 v37 v38 v39 v41 v46 v47 v48) W := by
  refine wpAnyH_all (rs := [17, 18]) (by kernel_rfl) (by simp) ?_
  intro i hi
  simp only [List.mem_cons, List.not_mem_nil, or_false] at hi
  rcases hi with rfl | rfl
  · exact st8_17 H hF hC fun v W' hF' hC' => ⟨ss_below hS hg hF'.bel, T8_801 H hS hg hE hF' hC'⟩
  · exact st8_18 7 hF hC fun v W' hF' hC' => ⟨ss_below hS hg hF'.bel, T8_711 H hS hg hE hF' hC'⟩
theorem T8_700 {w : World} {f : Nat → Value} {sl : Value} {n : Nat} {ys : List Int} {s0 s1 : ByteArray} {b0 b1 g8 : Nat} {o0 o1 : ByteArray} {Q : Exit → Act → World → Prop} (H : K8 w sl n ys s0 s1 b0 b1) (hS : SS g8 o0 o1 w) (hg : g8 < w.heap.size) (hE : End8 w f sl s0 s1 b0 b1 Q) {v9 v10 v32 v37 v38 v39 v41 v46 v47 v48 : Value} {W : World} (hF : FL8 w false false v9 v10 W) (hC : CH n ys s0 s1 b0 b1 v32 v37 v38 v39 v41 v46 v47 v48 W 7) :
    wpAnyH Tryz.prog .any (bodyOps 8 Tryz.f4.body) Q (SS g8 o0 o1) 5 #[true, true, true, true, true, true, true, true, true, true, true, true, true, true, true, true, true, false, false, false, false, false] (A8 f sl s0 s1 v9 v10 v32 v37 v38 v39 v41 v46 v47 v48) W := by
  refine wpAnyH_all (rs := [17, 18, 19]) (by kernel_rfl) (by simp) ?_
  intro i hi
  simp only [List.mem_cons, List.not_mem_nil, or_false] at hi
  rcases hi with rfl | rfl | rfl
  · exact st8_17 H hF hC fun v W' hF' hC' => ⟨ss_below hS hg hF'.bel, T8_800 H hS hg hE hF' hC'⟩
  · exact st8_18 7 hF hC fun v W' hF' hC' => ⟨ss_below hS hg hF'.bel, T8_710 H hS hg hE hF' hC'⟩
  · exact st8_19 7 hF hC fun v W' hF' hC' => ⟨ss_below hS hg hF'.bel, T8_701 H hS hg hE hF' hC'⟩
theorem T8_611 {w : World} {f : Nat → Value} {sl : Value} {n : Nat} {ys : List Int} {s0 s1 : ByteArray} {b0 b1 g8 : Nat} {o0 o1 : ByteArray} {Q : Exit → Act → World → Prop} (H : K8 w sl n ys s0 s1 b0 b1) (hS : SS g8 o0 o1 w) (hg : g8 < w.heap.size) (hE : End8 w f sl s0 s1 b0 b1 Q) {v9 v10 v32 v37 v38 v39 v41 v46 v47 v48 : Value} {W : World} (hF : FL8 w true true v9 v10 W) (hC : CH n ys s0 s1 b0 b1 v32 v37 v38 v39 v41 v46 v47 v48 W 6) :
    wpAnyH Tryz.prog .any (bodyOps 8 Tryz.f4.body) Q (SS g8 o0 o1) 4 #[true, true, true, true, true, true, true, true, true, true, true, true, true, true, true, true, false, false, true, true, false, false] (A8 f sl s0 s1 v9 v10 v32 v37 v38 v39 v41 v46 v47 v48) W := by
  refine wpAnyH_all (rs := [16]) (by kernel_rfl) (by simp) ?_
  intro i hi
  simp only [List.mem_cons, List.not_mem_nil, or_false] at hi
  subst hi
  · exact st8_16 H hF hC fun v W' hF' hC' => ⟨ss_below hS hg hF'.bel, T8_711 H hS hg hE hF' hC'⟩
theorem T8_610 {w : World} {f : Nat → Value} {sl : Value} {n : Nat} {ys : List Int} {s0 s1 : ByteArray} {b0 b1 g8 : Nat} {o0 o1 : ByteArray} {Q : Exit → Act → World → Prop} (H : K8 w sl n ys s0 s1 b0 b1) (hS : SS g8 o0 o1 w) (hg : g8 < w.heap.size) (hE : End8 w f sl s0 s1 b0 b1 Q) {v9 v10 v32 v37 v38 v39 v41 v46 v47 v48 : Value} {W : World} (hF : FL8 w true false v9 v10 W) (hC : CH n ys s0 s1 b0 b1 v32 v37 v38 v39 v41 v46 v47 v48 W 6) :
    wpAnyH Tryz.prog .any (bodyOps 8 Tryz.f4.body) Q (SS g8 o0 o1) 5 #[true, true, true, true, true, true, true, true, true, true, true, true, true, true, true, true, false, false, true, false, false, false] (A8 f sl s0 s1 v9 v10 v32 v37 v38 v39 v41 v46 v47 v48) W := by
  refine wpAnyH_all (rs := [16, 19]) (by kernel_rfl) (by simp) ?_
  intro i hi
  simp only [List.mem_cons, List.not_mem_nil, or_false] at hi
  rcases hi with rfl | rfl
  · exact st8_16 H hF hC fun v W' hF' hC' => ⟨ss_below hS hg hF'.bel, T8_710 H hS hg hE hF' hC'⟩
  · exact st8_19 6 hF hC fun v W' hF' hC' => ⟨ss_below hS hg hF'.bel, T8_611 H hS hg hE hF' hC'⟩
theorem T8_601 {w : World} {f : Nat → Value} {sl : Value} {n : Nat} {ys : List Int} {s0 s1 : ByteArray} {b0 b1 g8 : Nat} {o0 o1 : ByteArray} {Q : Exit → Act → World → Prop} (H : K8 w sl n ys s0 s1 b0 b1) (hS : SS g8 o0 o1 w) (hg : g8 < w.heap.size) (hE : End8 w f sl s0 s1 b0 b1 Q) {v9 v10 v32 v37 v38 v39 v41 v46 v47 v48 : Value} {W : World} (hF : FL8 w false true v9 v10 W) (hC : CH n ys s0 s1 b0 b1 v32 v37 v38 v39 v41 v46 v47 v48 W 6) :
    wpAnyH Tryz.prog .any (bodyOps 8 Tryz.f4.body) Q (SS g8 o0 o1) 5 #[true, true, true, true, true, true, true, true, true, true, true, true, true, true, true, true, false, false, false, true, false, false] (A8 f sl s0 s1 v9 v10 v32 v37 v38 v39 v41 v46 v47 v48) W := by
  refine wpAnyH_all (rs := [16, 18]) (by kernel_rfl) (by simp) ?_
  intro i hi
  simp only [List.mem_cons, List.not_mem_nil, or_false] at hi
  rcases hi with rfl | rfl
  · exact st8_16 H hF hC fun v W' hF' hC' => ⟨ss_below hS hg hF'.bel, T8_701 H hS hg hE hF' hC'⟩
  · exact st8_18 6 hF hC fun v W' hF' hC' => ⟨ss_below hS hg hF'.bel, T8_611 H hS hg hE hF' hC'⟩
theorem T8_600 {w : World} {f : Nat → Value} {sl : Value} {n : Nat} {ys : List Int} {s0 s1 : ByteArray} {b0 b1 g8 : Nat} {o0 o1 : ByteArray} {Q : Exit → Act → World → Prop} (H : K8 w sl n ys s0 s1 b0 b1) (hS : SS g8 o0 o1 w) (hg : g8 < w.heap.size) (hE : End8 w f sl s0 s1 b0 b1 Q) {v9 v10 v32 v37 v38 v39 v41 v46 v47 v48 : Value} {W : World} (hF : FL8 w false false v9 v10 W) (hC : CH n ys s0 s1 b0 b1 v32 v37 v38 v39 v41 v46 v47 v48 W 6) :
    wpAnyH Tryz.prog .any (bodyOps 8 Tryz.f4.body) Q (SS g8 o0 o1) 6 #[true, true, true, true, true, true, true, true, true, true, true, true, true, true, true, true, false, false, false, false, false, false] (A8 f sl s0 s1 v9 v10 v32 v37 v38 v39 v41 v46 v47 v48) W := by
  refine wpAnyH_all (rs := [16, 18, 19]) (by kernel_rfl) (by simp) ?_
  intro i hi
  simp only [List.mem_cons, List.not_mem_nil, or_false] at hi
  rcases hi with rfl | rfl | rfl
  · exact st8_16 H hF hC fun v W' hF' hC' => ⟨ss_below hS hg hF'.bel, T8_700 H hS hg hE hF' hC'⟩
  · exact st8_18 6 hF hC fun v W' hF' hC' => ⟨ss_below hS hg hF'.bel, T8_610 H hS hg hE hF' hC'⟩
  · exact st8_19 6 hF hC fun v W' hF' hC' => ⟨ss_below hS hg hF'.bel, T8_601 H hS hg hE hF' hC'⟩
theorem T8_511 {w : World} {f : Nat → Value} {sl : Value} {n : Nat} {ys : List Int} {s0 s1 : ByteArray} {b0 b1 g8 : Nat} {o0 o1 : ByteArray} {Q : Exit → Act → World → Prop} (H : K8 w sl n ys s0 s1 b0 b1) (hS : SS g8 o0 o1 w) (hg : g8 < w.heap.size) (hE : End8 w f sl s0 s1 b0 b1 Q) {v9 v10 v32 v37 v38 v39 v41 v46 v47 v48 : Value} {W : World} (hF : FL8 w true true v9 v10 W) (hC : CH n ys s0 s1 b0 b1 v32 v37 v38 v39 v41 v46 v47 v48 W 5) :
    wpAnyH Tryz.prog .any (bodyOps 8 Tryz.f4.body) Q (SS g8 o0 o1) 5 #[true, true, true, true, true, true, true, true, true, true, true, true, true, true, true, false, false, false, true, true, false, false] (A8 f sl s0 s1 v9 v10 v32 v37 v38 v39 v41 v46 v47 v48) W := by
  refine wpAnyH_all (rs := [15]) (by kernel_rfl) (by simp) ?_
  intro i hi
  simp only [List.mem_cons, List.not_mem_nil, or_false] at hi
  subst hi
  · exact st8_15 H hF hC fun v W' hF' hC' => ⟨ss_below hS hg hF'.bel, T8_611 H hS hg hE hF' hC'⟩
theorem T8_510 {w : World} {f : Nat → Value} {sl : Value} {n : Nat} {ys : List Int} {s0 s1 : ByteArray} {b0 b1 g8 : Nat} {o0 o1 : ByteArray} {Q : Exit → Act → World → Prop} (H : K8 w sl n ys s0 s1 b0 b1) (hS : SS g8 o0 o1 w) (hg : g8 < w.heap.size) (hE : End8 w f sl s0 s1 b0 b1 Q) {v9 v10 v32 v37 v38 v39 v41 v46 v47 v48 : Value} {W : World} (hF : FL8 w true false v9 v10 W) (hC : CH n ys s0 s1 b0 b1 v32 v37 v38 v39 v41 v46 v47 v48 W 5) :
    wpAnyH Tryz.prog .any (bodyOps 8 Tryz.f4.body) Q (SS g8 o0 o1) 6 #[true, true, true, true, true, true, true, true, true, true, true, true, true, true, true, false, false, false, true, false, false, false] (A8 f sl s0 s1 v9 v10 v32 v37 v38 v39 v41 v46 v47 v48) W := by
  refine wpAnyH_all (rs := [15, 19]) (by kernel_rfl) (by simp) ?_
  intro i hi
  simp only [List.mem_cons, List.not_mem_nil, or_false] at hi
  rcases hi with rfl | rfl
  · exact st8_15 H hF hC fun v W' hF' hC' => ⟨ss_below hS hg hF'.bel, T8_610 H hS hg hE hF' hC'⟩
  · exact st8_19 5 hF hC fun v W' hF' hC' => ⟨ss_below hS hg hF'.bel, T8_511 H hS hg hE hF' hC'⟩
theorem T8_501 {w : World} {f : Nat → Value} {sl : Value} {n : Nat} {ys : List Int} {s0 s1 : ByteArray} {b0 b1 g8 : Nat} {o0 o1 : ByteArray} {Q : Exit → Act → World → Prop} (H : K8 w sl n ys s0 s1 b0 b1) (hS : SS g8 o0 o1 w) (hg : g8 < w.heap.size) (hE : End8 w f sl s0 s1 b0 b1 Q) {v9 v10 v32 v37 v38 v39 v41 v46 v47 v48 : Value} {W : World} (hF : FL8 w false true v9 v10 W) (hC : CH n ys s0 s1 b0 b1 v32 v37 v38 v39 v41 v46 v47 v48 W 5) :
    wpAnyH Tryz.prog .any (bodyOps 8 Tryz.f4.body) Q (SS g8 o0 o1) 6 #[true, true, true, true, true, true, true, true, true, true, true, true, true, true, true, false, false, false, false, true, false, false] (A8 f sl s0 s1 v9 v10 v32 v37 v38 v39 v41 v46 v47 v48) W := by
  refine wpAnyH_all (rs := [15, 18]) (by kernel_rfl) (by simp) ?_
  intro i hi
  simp only [List.mem_cons, List.not_mem_nil, or_false] at hi
  rcases hi with rfl | rfl
  · exact st8_15 H hF hC fun v W' hF' hC' => ⟨ss_below hS hg hF'.bel, T8_601 H hS hg hE hF' hC'⟩
  · exact st8_18 5 hF hC fun v W' hF' hC' => ⟨ss_below hS hg hF'.bel, T8_511 H hS hg hE hF' hC'⟩
theorem T8_500 {w : World} {f : Nat → Value} {sl : Value} {n : Nat} {ys : List Int} {s0 s1 : ByteArray} {b0 b1 g8 : Nat} {o0 o1 : ByteArray} {Q : Exit → Act → World → Prop} (H : K8 w sl n ys s0 s1 b0 b1) (hS : SS g8 o0 o1 w) (hg : g8 < w.heap.size) (hE : End8 w f sl s0 s1 b0 b1 Q) {v9 v10 v32 v37 v38 v39 v41 v46 v47 v48 : Value} {W : World} (hF : FL8 w false false v9 v10 W) (hC : CH n ys s0 s1 b0 b1 v32 v37 v38 v39 v41 v46 v47 v48 W 5) :
    wpAnyH Tryz.prog .any (bodyOps 8 Tryz.f4.body) Q (SS g8 o0 o1) 7 #[true, true, true, true, true, true, true, true, true, true, true, true, true, true, true, false, false, false, false, false, false, false] (A8 f sl s0 s1 v9 v10 v32 v37 v38 v39 v41 v46 v47 v48) W := by
  refine wpAnyH_all (rs := [15, 18, 19]) (by kernel_rfl) (by simp) ?_
  intro i hi
  simp only [List.mem_cons, List.not_mem_nil, or_false] at hi
  rcases hi with rfl | rfl | rfl
  · exact st8_15 H hF hC fun v W' hF' hC' => ⟨ss_below hS hg hF'.bel, T8_600 H hS hg hE hF' hC'⟩
  · exact st8_18 5 hF hC fun v W' hF' hC' => ⟨ss_below hS hg hF'.bel, T8_510 H hS hg hE hF' hC'⟩
  · exact st8_19 5 hF hC fun v W' hF' hC' => ⟨ss_below hS hg hF'.bel, T8_501 H hS hg hE hF' hC'⟩
theorem T8_411 {w : World} {f : Nat → Value} {sl : Value} {n : Nat} {ys : List Int} {s0 s1 : ByteArray} {b0 b1 g8 : Nat} {o0 o1 : ByteArray} {Q : Exit → Act → World → Prop} (H : K8 w sl n ys s0 s1 b0 b1) (hS : SS g8 o0 o1 w) (hg : g8 < w.heap.size) (hE : End8 w f sl s0 s1 b0 b1 Q) {v9 v10 v32 v37 v38 v39 v41 v46 v47 v48 : Value} {W : World} (hF : FL8 w true true v9 v10 W) (hC : CH n ys s0 s1 b0 b1 v32 v37 v38 v39 v41 v46 v47 v48 W 4) :
    wpAnyH Tryz.prog .any (bodyOps 8 Tryz.f4.body) Q (SS g8 o0 o1) 6 #[true, true, true, true, true, true, true, true, true, true, false, true, true, true, true, false, false, false, true, true, false, false] (A8 f sl s0 s1 v9 v10 v32 v37 v38 v39 v41 v46 v47 v48) W := by
  refine wpAnyH_all (rs := [10]) (by kernel_rfl) (by simp) ?_
  intro i hi
  simp only [List.mem_cons, List.not_mem_nil, or_false] at hi
  subst hi
  · exact st8_10 H hF hC fun v W' hF' hC' => ⟨ss_below hS hg hF'.bel, T8_511 H hS hg hE hF' hC'⟩
theorem T8_410 {w : World} {f : Nat → Value} {sl : Value} {n : Nat} {ys : List Int} {s0 s1 : ByteArray} {b0 b1 g8 : Nat} {o0 o1 : ByteArray} {Q : Exit → Act → World → Prop} (H : K8 w sl n ys s0 s1 b0 b1) (hS : SS g8 o0 o1 w) (hg : g8 < w.heap.size) (hE : End8 w f sl s0 s1 b0 b1 Q) {v9 v10 v32 v37 v38 v39 v41 v46 v47 v48 : Value} {W : World} (hF : FL8 w true false v9 v10 W) (hC : CH n ys s0 s1 b0 b1 v32 v37 v38 v39 v41 v46 v47 v48 W 4) :
    wpAnyH Tryz.prog .any (bodyOps 8 Tryz.f4.body) Q (SS g8 o0 o1) 7 #[true, true, true, true, true, true, true, true, true, true, false, true, true, true, true, false, false, false, true, false, false, false] (A8 f sl s0 s1 v9 v10 v32 v37 v38 v39 v41 v46 v47 v48) W := by
  refine wpAnyH_all (rs := [10, 19]) (by kernel_rfl) (by simp) ?_
  intro i hi
  simp only [List.mem_cons, List.not_mem_nil, or_false] at hi
  rcases hi with rfl | rfl
  · exact st8_10 H hF hC fun v W' hF' hC' => ⟨ss_below hS hg hF'.bel, T8_510 H hS hg hE hF' hC'⟩
  · exact st8_19 4 hF hC fun v W' hF' hC' => ⟨ss_below hS hg hF'.bel, T8_411 H hS hg hE hF' hC'⟩
theorem T8_401 {w : World} {f : Nat → Value} {sl : Value} {n : Nat} {ys : List Int} {s0 s1 : ByteArray} {b0 b1 g8 : Nat} {o0 o1 : ByteArray} {Q : Exit → Act → World → Prop} (H : K8 w sl n ys s0 s1 b0 b1) (hS : SS g8 o0 o1 w) (hg : g8 < w.heap.size) (hE : End8 w f sl s0 s1 b0 b1 Q) {v9 v10 v32 v37 v38 v39 v41 v46 v47 v48 : Value} {W : World} (hF : FL8 w false true v9 v10 W) (hC : CH n ys s0 s1 b0 b1 v32 v37 v38 v39 v41 v46 v47 v48 W 4) :
    wpAnyH Tryz.prog .any (bodyOps 8 Tryz.f4.body) Q (SS g8 o0 o1) 7 #[true, true, true, true, true, true, true, true, true, true, false, true, true, true, true, false, false, false, false, true, false, false] (A8 f sl s0 s1 v9 v10 v32 v37 v38 v39 v41 v46 v47 v48) W := by
  refine wpAnyH_all (rs := [10, 18]) (by kernel_rfl) (by simp) ?_
  intro i hi
  simp only [List.mem_cons, List.not_mem_nil, or_false] at hi
  rcases hi with rfl | rfl
  · exact st8_10 H hF hC fun v W' hF' hC' => ⟨ss_below hS hg hF'.bel, T8_501 H hS hg hE hF' hC'⟩
  · exact st8_18 4 hF hC fun v W' hF' hC' => ⟨ss_below hS hg hF'.bel, T8_411 H hS hg hE hF' hC'⟩
theorem T8_400 {w : World} {f : Nat → Value} {sl : Value} {n : Nat} {ys : List Int} {s0 s1 : ByteArray} {b0 b1 g8 : Nat} {o0 o1 : ByteArray} {Q : Exit → Act → World → Prop} (H : K8 w sl n ys s0 s1 b0 b1) (hS : SS g8 o0 o1 w) (hg : g8 < w.heap.size) (hE : End8 w f sl s0 s1 b0 b1 Q) {v9 v10 v32 v37 v38 v39 v41 v46 v47 v48 : Value} {W : World} (hF : FL8 w false false v9 v10 W) (hC : CH n ys s0 s1 b0 b1 v32 v37 v38 v39 v41 v46 v47 v48 W 4) :
    wpAnyH Tryz.prog .any (bodyOps 8 Tryz.f4.body) Q (SS g8 o0 o1) 8 #[true, true, true, true, true, true, true, true, true, true, false, true, true, true, true, false, false, false, false, false, false, false] (A8 f sl s0 s1 v9 v10 v32 v37 v38 v39 v41 v46 v47 v48) W := by
  refine wpAnyH_all (rs := [10, 18, 19]) (by kernel_rfl) (by simp) ?_
  intro i hi
  simp only [List.mem_cons, List.not_mem_nil, or_false] at hi
  rcases hi with rfl | rfl | rfl
  · exact st8_10 H hF hC fun v W' hF' hC' => ⟨ss_below hS hg hF'.bel, T8_500 H hS hg hE hF' hC'⟩
  · exact st8_18 4 hF hC fun v W' hF' hC' => ⟨ss_below hS hg hF'.bel, T8_410 H hS hg hE hF' hC'⟩
  · exact st8_19 4 hF hC fun v W' hF' hC' => ⟨ss_below hS hg hF'.bel, T8_401 H hS hg hE hF' hC'⟩
theorem T8_311 {w : World} {f : Nat → Value} {sl : Value} {n : Nat} {ys : List Int} {s0 s1 : ByteArray} {b0 b1 g8 : Nat} {o0 o1 : ByteArray} {Q : Exit → Act → World → Prop} (H : K8 w sl n ys s0 s1 b0 b1) (hS : SS g8 o0 o1 w) (hg : g8 < w.heap.size) (hE : End8 w f sl s0 s1 b0 b1 Q) {v9 v10 v32 v37 v38 v39 v41 v46 v47 v48 : Value} {W : World} (hF : FL8 w true true v9 v10 W) (hC : CH n ys s0 s1 b0 b1 v32 v37 v38 v39 v41 v46 v47 v48 W 3) :
    wpAnyH Tryz.prog .any (bodyOps 8 Tryz.f4.body) Q (SS g8 o0 o1) 7 #[true, true, true, true, true, true, true, true, false, true, false, true, true, true, true, false, false, false, true, true, false, false] (A8 f sl s0 s1 v9 v10 v32 v37 v38 v39 v41 v46 v47 v48) W := by
  refine wpAnyH_all (rs := [8]) (by kernel_rfl) (by simp) ?_
  intro i hi
  simp only [List.mem_cons, List.not_mem_nil, or_false] at hi
  subst hi
  · exact st8_8 H hF hC fun v W' hF' hC' => ⟨ss_below hS hg hF'.bel, T8_411 H hS hg hE hF' hC'⟩
theorem T8_310 {w : World} {f : Nat → Value} {sl : Value} {n : Nat} {ys : List Int} {s0 s1 : ByteArray} {b0 b1 g8 : Nat} {o0 o1 : ByteArray} {Q : Exit → Act → World → Prop} (H : K8 w sl n ys s0 s1 b0 b1) (hS : SS g8 o0 o1 w) (hg : g8 < w.heap.size) (hE : End8 w f sl s0 s1 b0 b1 Q) {v9 v10 v32 v37 v38 v39 v41 v46 v47 v48 : Value} {W : World} (hF : FL8 w true false v9 v10 W) (hC : CH n ys s0 s1 b0 b1 v32 v37 v38 v39 v41 v46 v47 v48 W 3) :
    wpAnyH Tryz.prog .any (bodyOps 8 Tryz.f4.body) Q (SS g8 o0 o1) 8 #[true, true, true, true, true, true, true, true, false, true, false, true, true, true, true, false, false, false, true, false, false, false] (A8 f sl s0 s1 v9 v10 v32 v37 v38 v39 v41 v46 v47 v48) W := by
  refine wpAnyH_all (rs := [8, 19]) (by kernel_rfl) (by simp) ?_
  intro i hi
  simp only [List.mem_cons, List.not_mem_nil, or_false] at hi
  rcases hi with rfl | rfl
  · exact st8_8 H hF hC fun v W' hF' hC' => ⟨ss_below hS hg hF'.bel, T8_410 H hS hg hE hF' hC'⟩
  · exact st8_19 3 hF hC fun v W' hF' hC' => ⟨ss_below hS hg hF'.bel, T8_311 H hS hg hE hF' hC'⟩
theorem T8_301 {w : World} {f : Nat → Value} {sl : Value} {n : Nat} {ys : List Int} {s0 s1 : ByteArray} {b0 b1 g8 : Nat} {o0 o1 : ByteArray} {Q : Exit → Act → World → Prop} (H : K8 w sl n ys s0 s1 b0 b1) (hS : SS g8 o0 o1 w) (hg : g8 < w.heap.size) (hE : End8 w f sl s0 s1 b0 b1 Q) {v9 v10 v32 v37 v38 v39 v41 v46 v47 v48 : Value} {W : World} (hF : FL8 w false true v9 v10 W) (hC : CH n ys s0 s1 b0 b1 v32 v37 v38 v39 v41 v46 v47 v48 W 3) :
    wpAnyH Tryz.prog .any (bodyOps 8 Tryz.f4.body) Q (SS g8 o0 o1) 8 #[true, true, true, true, true, true, true, true, false, true, false, true, true, true, true, false, false, false, false, true, false, false] (A8 f sl s0 s1 v9 v10 v32 v37 v38 v39 v41 v46 v47 v48) W := by
  refine wpAnyH_all (rs := [8, 18]) (by kernel_rfl) (by simp) ?_
  intro i hi
  simp only [List.mem_cons, List.not_mem_nil, or_false] at hi
  rcases hi with rfl | rfl
  · exact st8_8 H hF hC fun v W' hF' hC' => ⟨ss_below hS hg hF'.bel, T8_401 H hS hg hE hF' hC'⟩
  · exact st8_18 3 hF hC fun v W' hF' hC' => ⟨ss_below hS hg hF'.bel, T8_311 H hS hg hE hF' hC'⟩
theorem T8_300 {w : World} {f : Nat → Value} {sl : Value} {n : Nat} {ys : List Int} {s0 s1 : ByteArray} {b0 b1 g8 : Nat} {o0 o1 : ByteArray} {Q : Exit → Act → World → Prop} (H : K8 w sl n ys s0 s1 b0 b1) (hS : SS g8 o0 o1 w) (hg : g8 < w.heap.size) (hE : End8 w f sl s0 s1 b0 b1 Q) {v9 v10 v32 v37 v38 v39 v41 v46 v47 v48 : Value} {W : World} (hF : FL8 w false false v9 v10 W) (hC : CH n ys s0 s1 b0 b1 v32 v37 v38 v39 v41 v46 v47 v48 W 3) :
    wpAnyH Tryz.prog .any (bodyOps 8 Tryz.f4.body) Q (SS g8 o0 o1) 9 #[true, true, true, true, true, true, true, true, false, true, false, true, true, true, true, false, false, false, false, false, false, false] (A8 f sl s0 s1 v9 v10 v32 v37 v38 v39 v41 v46 v47 v48) W := by
  refine wpAnyH_all (rs := [8, 18, 19]) (by kernel_rfl) (by simp) ?_
  intro i hi
  simp only [List.mem_cons, List.not_mem_nil, or_false] at hi
  rcases hi with rfl | rfl | rfl
  · exact st8_8 H hF hC fun v W' hF' hC' => ⟨ss_below hS hg hF'.bel, T8_400 H hS hg hE hF' hC'⟩
  · exact st8_18 3 hF hC fun v W' hF' hC' => ⟨ss_below hS hg hF'.bel, T8_310 H hS hg hE hF' hC'⟩
  · exact st8_19 3 hF hC fun v W' hF' hC' => ⟨ss_below hS hg hF'.bel, T8_301 H hS hg hE hF' hC'⟩
theorem T8_211 {w : World} {f : Nat → Value} {sl : Value} {n : Nat} {ys : List Int} {s0 s1 : ByteArray} {b0 b1 g8 : Nat} {o0 o1 : ByteArray} {Q : Exit → Act → World → Prop} (H : K8 w sl n ys s0 s1 b0 b1) (hS : SS g8 o0 o1 w) (hg : g8 < w.heap.size) (hE : End8 w f sl s0 s1 b0 b1 Q) {v9 v10 v32 v37 v38 v39 v41 v46 v47 v48 : Value} {W : World} (hF : FL8 w true true v9 v10 W) (hC : CH n ys s0 s1 b0 b1 v32 v37 v38 v39 v41 v46 v47 v48 W 2) :
    wpAnyH Tryz.prog .any (bodyOps 8 Tryz.f4.body) Q (SS g8 o0 o1) 8 #[true, true, true, true, true, true, true, false, false, true, false, true, true, true, true, false, false, false, true, true, false, false] (A8 f sl s0 s1 v9 v10 v32 v37 v38 v39 v41 v46 v47 v48) W := by
  refine wpAnyH_all (rs := [7]) (by kernel_rfl) (by simp) ?_
  intro i hi
  simp only [List.mem_cons, List.not_mem_nil, or_false] at hi
  subst hi
  · exact st8_7 H hF hC fun v W' hF' hC' => ⟨ss_below hS hg hF'.bel, T8_311 H hS hg hE hF' hC'⟩
theorem T8_210 {w : World} {f : Nat → Value} {sl : Value} {n : Nat} {ys : List Int} {s0 s1 : ByteArray} {b0 b1 g8 : Nat} {o0 o1 : ByteArray} {Q : Exit → Act → World → Prop} (H : K8 w sl n ys s0 s1 b0 b1) (hS : SS g8 o0 o1 w) (hg : g8 < w.heap.size) (hE : End8 w f sl s0 s1 b0 b1 Q) {v9 v10 v32 v37 v38 v39 v41 v46 v47 v48 : Value} {W : World} (hF : FL8 w true false v9 v10 W) (hC : CH n ys s0 s1 b0 b1 v32 v37 v38 v39 v41 v46 v47 v48 W 2) :
    wpAnyH Tryz.prog .any (bodyOps 8 Tryz.f4.body) Q (SS g8 o0 o1) 9 #[true, true, true, true, true, true, true, false, false, true, false, true, true, true, true, false, false, false, true, false, false, false] (A8 f sl s0 s1 v9 v10 v32 v37 v38 v39 v41 v46 v47 v48) W := by
  refine wpAnyH_all (rs := [7, 19]) (by kernel_rfl) (by simp) ?_
  intro i hi
  simp only [List.mem_cons, List.not_mem_nil, or_false] at hi
  rcases hi with rfl | rfl
  · exact st8_7 H hF hC fun v W' hF' hC' => ⟨ss_below hS hg hF'.bel, T8_310 H hS hg hE hF' hC'⟩
  · exact st8_19 2 hF hC fun v W' hF' hC' => ⟨ss_below hS hg hF'.bel, T8_211 H hS hg hE hF' hC'⟩
theorem T8_201 {w : World} {f : Nat → Value} {sl : Value} {n : Nat} {ys : List Int} {s0 s1 : ByteArray} {b0 b1 g8 : Nat} {o0 o1 : ByteArray} {Q : Exit → Act → World → Prop} (H : K8 w sl n ys s0 s1 b0 b1) (hS : SS g8 o0 o1 w) (hg : g8 < w.heap.size) (hE : End8 w f sl s0 s1 b0 b1 Q) {v9 v10 v32 v37 v38 v39 v41 v46 v47 v48 : Value} {W : World} (hF : FL8 w false true v9 v10 W) (hC : CH n ys s0 s1 b0 b1 v32 v37 v38 v39 v41 v46 v47 v48 W 2) :
    wpAnyH Tryz.prog .any (bodyOps 8 Tryz.f4.body) Q (SS g8 o0 o1) 9 #[true, true, true, true, true, true, true, false, false, true, false, true, true, true, true, false, false, false, false, true, false, false] (A8 f sl s0 s1 v9 v10 v32 v37 v38 v39 v41 v46 v47 v48) W := by
  refine wpAnyH_all (rs := [7, 18]) (by kernel_rfl) (by simp) ?_
  intro i hi
  simp only [List.mem_cons, List.not_mem_nil, or_false] at hi
  rcases hi with rfl | rfl
  · exact st8_7 H hF hC fun v W' hF' hC' => ⟨ss_below hS hg hF'.bel, T8_301 H hS hg hE hF' hC'⟩
  · exact st8_18 2 hF hC fun v W' hF' hC' => ⟨ss_below hS hg hF'.bel, T8_211 H hS hg hE hF' hC'⟩
theorem T8_200 {w : World} {f : Nat → Value} {sl : Value} {n : Nat} {ys : List Int} {s0 s1 : ByteArray} {b0 b1 g8 : Nat} {o0 o1 : ByteArray} {Q : Exit → Act → World → Prop} (H : K8 w sl n ys s0 s1 b0 b1) (hS : SS g8 o0 o1 w) (hg : g8 < w.heap.size) (hE : End8 w f sl s0 s1 b0 b1 Q) {v9 v10 v32 v37 v38 v39 v41 v46 v47 v48 : Value} {W : World} (hF : FL8 w false false v9 v10 W) (hC : CH n ys s0 s1 b0 b1 v32 v37 v38 v39 v41 v46 v47 v48 W 2) :
    wpAnyH Tryz.prog .any (bodyOps 8 Tryz.f4.body) Q (SS g8 o0 o1) 10 #[true, true, true, true, true, true, true, false, false, true, false, true, true, true, true, false, false, false, false, false, false, false] (A8 f sl s0 s1 v9 v10 v32 v37 v38 v39 v41 v46 v47 v48) W := by
  refine wpAnyH_all (rs := [7, 18, 19]) (by kernel_rfl) (by simp) ?_
  intro i hi
  simp only [List.mem_cons, List.not_mem_nil, or_false] at hi
  rcases hi with rfl | rfl | rfl
  · exact st8_7 H hF hC fun v W' hF' hC' => ⟨ss_below hS hg hF'.bel, T8_300 H hS hg hE hF' hC'⟩
  · exact st8_18 2 hF hC fun v W' hF' hC' => ⟨ss_below hS hg hF'.bel, T8_210 H hS hg hE hF' hC'⟩
  · exact st8_19 2 hF hC fun v W' hF' hC' => ⟨ss_below hS hg hF'.bel, T8_201 H hS hg hE hF' hC'⟩
theorem T8_111 {w : World} {f : Nat → Value} {sl : Value} {n : Nat} {ys : List Int} {s0 s1 : ByteArray} {b0 b1 g8 : Nat} {o0 o1 : ByteArray} {Q : Exit → Act → World → Prop} (H : K8 w sl n ys s0 s1 b0 b1) (hS : SS g8 o0 o1 w) (hg : g8 < w.heap.size) (hE : End8 w f sl s0 s1 b0 b1 Q) {v9 v10 v32 v37 v38 v39 v41 v46 v47 v48 : Value} {W : World} (hF : FL8 w true true v9 v10 W) (hC : CH n ys s0 s1 b0 b1 v32 v37 v38 v39 v41 v46 v47 v48 W 1) :
    wpAnyH Tryz.prog .any (bodyOps 8 Tryz.f4.body) Q (SS g8 o0 o1) 9 #[true, true, true, true, true, true, false, false, false, true, false, true, true, true, true, false, false, false, true, true, false, false] (A8 f sl s0 s1 v9 v10 v32 v37 v38 v39 v41 v46 v47 v48) W := by
  refine wpAnyH_all (rs := [6]) (by kernel_rfl) (by simp) ?_
  intro i hi
  simp only [List.mem_cons, List.not_mem_nil, or_false] at hi
  subst hi
  · exact st8_6 H hF hC fun v W' hF' hC' => ⟨ss_below hS hg hF'.bel, T8_211 H hS hg hE hF' hC'⟩
theorem T8_110 {w : World} {f : Nat → Value} {sl : Value} {n : Nat} {ys : List Int} {s0 s1 : ByteArray} {b0 b1 g8 : Nat} {o0 o1 : ByteArray} {Q : Exit → Act → World → Prop} (H : K8 w sl n ys s0 s1 b0 b1) (hS : SS g8 o0 o1 w) (hg : g8 < w.heap.size) (hE : End8 w f sl s0 s1 b0 b1 Q) {v9 v10 v32 v37 v38 v39 v41 v46 v47 v48 : Value} {W : World} (hF : FL8 w true false v9 v10 W) (hC : CH n ys s0 s1 b0 b1 v32 v37 v38 v39 v41 v46 v47 v48 W 1) :
    wpAnyH Tryz.prog .any (bodyOps 8 Tryz.f4.body) Q (SS g8 o0 o1) 10 #[true, true, true, true, true, true, false, false, false, true, false, true, true, true, true, false, false, false, true, false, false, false] (A8 f sl s0 s1 v9 v10 v32 v37 v38 v39 v41 v46 v47 v48) W := by
  refine wpAnyH_all (rs := [6, 19]) (by kernel_rfl) (by simp) ?_
  intro i hi
  simp only [List.mem_cons, List.not_mem_nil, or_false] at hi
  rcases hi with rfl | rfl
  · exact st8_6 H hF hC fun v W' hF' hC' => ⟨ss_below hS hg hF'.bel, T8_210 H hS hg hE hF' hC'⟩
  · exact st8_19 1 hF hC fun v W' hF' hC' => ⟨ss_below hS hg hF'.bel, T8_111 H hS hg hE hF' hC'⟩
theorem T8_101 {w : World} {f : Nat → Value} {sl : Value} {n : Nat} {ys : List Int} {s0 s1 : ByteArray} {b0 b1 g8 : Nat} {o0 o1 : ByteArray} {Q : Exit → Act → World → Prop} (H : K8 w sl n ys s0 s1 b0 b1) (hS : SS g8 o0 o1 w) (hg : g8 < w.heap.size) (hE : End8 w f sl s0 s1 b0 b1 Q) {v9 v10 v32 v37 v38 v39 v41 v46 v47 v48 : Value} {W : World} (hF : FL8 w false true v9 v10 W) (hC : CH n ys s0 s1 b0 b1 v32 v37 v38 v39 v41 v46 v47 v48 W 1) :
    wpAnyH Tryz.prog .any (bodyOps 8 Tryz.f4.body) Q (SS g8 o0 o1) 10 #[true, true, true, true, true, true, false, false, false, true, false, true, true, true, true, false, false, false, false, true, false, false] (A8 f sl s0 s1 v9 v10 v32 v37 v38 v39 v41 v46 v47 v48) W := by
  refine wpAnyH_all (rs := [6, 18]) (by kernel_rfl) (by simp) ?_
  intro i hi
  simp only [List.mem_cons, List.not_mem_nil, or_false] at hi
  rcases hi with rfl | rfl
  · exact st8_6 H hF hC fun v W' hF' hC' => ⟨ss_below hS hg hF'.bel, T8_201 H hS hg hE hF' hC'⟩
  · exact st8_18 1 hF hC fun v W' hF' hC' => ⟨ss_below hS hg hF'.bel, T8_111 H hS hg hE hF' hC'⟩
theorem T8_100 {w : World} {f : Nat → Value} {sl : Value} {n : Nat} {ys : List Int} {s0 s1 : ByteArray} {b0 b1 g8 : Nat} {o0 o1 : ByteArray} {Q : Exit → Act → World → Prop} (H : K8 w sl n ys s0 s1 b0 b1) (hS : SS g8 o0 o1 w) (hg : g8 < w.heap.size) (hE : End8 w f sl s0 s1 b0 b1 Q) {v9 v10 v32 v37 v38 v39 v41 v46 v47 v48 : Value} {W : World} (hF : FL8 w false false v9 v10 W) (hC : CH n ys s0 s1 b0 b1 v32 v37 v38 v39 v41 v46 v47 v48 W 1) :
    wpAnyH Tryz.prog .any (bodyOps 8 Tryz.f4.body) Q (SS g8 o0 o1) 11 #[true, true, true, true, true, true, false, false, false, true, false, true, true, true, true, false, false, false, false, false, false, false] (A8 f sl s0 s1 v9 v10 v32 v37 v38 v39 v41 v46 v47 v48) W := by
  refine wpAnyH_all (rs := [6, 18, 19]) (by kernel_rfl) (by simp) ?_
  intro i hi
  simp only [List.mem_cons, List.not_mem_nil, or_false] at hi
  rcases hi with rfl | rfl | rfl
  · exact st8_6 H hF hC fun v W' hF' hC' => ⟨ss_below hS hg hF'.bel, T8_200 H hS hg hE hF' hC'⟩
  · exact st8_18 1 hF hC fun v W' hF' hC' => ⟨ss_below hS hg hF'.bel, T8_110 H hS hg hE hF' hC'⟩
  · exact st8_19 1 hF hC fun v W' hF' hC' => ⟨ss_below hS hg hF'.bel, T8_101 H hS hg hE hF' hC'⟩
theorem T8_011 {w : World} {f : Nat → Value} {sl : Value} {n : Nat} {ys : List Int} {s0 s1 : ByteArray} {b0 b1 g8 : Nat} {o0 o1 : ByteArray} {Q : Exit → Act → World → Prop} (H : K8 w sl n ys s0 s1 b0 b1) (hS : SS g8 o0 o1 w) (hg : g8 < w.heap.size) (hE : End8 w f sl s0 s1 b0 b1 Q) {v9 v10 v32 v37 v38 v39 v41 v46 v47 v48 : Value} {W : World} (hF : FL8 w true true v9 v10 W) (hC : CH n ys s0 s1 b0 b1 v32 v37 v38 v39 v41 v46 v47 v48 W 0) :
    wpAnyH Tryz.prog .any (bodyOps 8 Tryz.f4.body) Q (SS g8 o0 o1) 10 #[true, false, true, true, true, true, false, false, false, true, false, true, true, true, true, false, false, false, true, true, false, false] (A8 f sl s0 s1 v9 v10 v32 v37 v38 v39 v41 v46 v47 v48) W := by
  refine wpAnyH_all (rs := [1]) (by kernel_rfl) (by simp) ?_
  intro i hi
  simp only [List.mem_cons, List.not_mem_nil, or_false] at hi
  subst hi
  · exact st8_1 H hF hC fun v W' hF' hC' => ⟨ss_below hS hg hF'.bel, T8_111 H hS hg hE hF' hC'⟩
theorem T8_010 {w : World} {f : Nat → Value} {sl : Value} {n : Nat} {ys : List Int} {s0 s1 : ByteArray} {b0 b1 g8 : Nat} {o0 o1 : ByteArray} {Q : Exit → Act → World → Prop} (H : K8 w sl n ys s0 s1 b0 b1) (hS : SS g8 o0 o1 w) (hg : g8 < w.heap.size) (hE : End8 w f sl s0 s1 b0 b1 Q) {v9 v10 v32 v37 v38 v39 v41 v46 v47 v48 : Value} {W : World} (hF : FL8 w true false v9 v10 W) (hC : CH n ys s0 s1 b0 b1 v32 v37 v38 v39 v41 v46 v47 v48 W 0) :
    wpAnyH Tryz.prog .any (bodyOps 8 Tryz.f4.body) Q (SS g8 o0 o1) 11 #[true, false, true, true, true, true, false, false, false, true, false, true, true, true, true, false, false, false, true, false, false, false] (A8 f sl s0 s1 v9 v10 v32 v37 v38 v39 v41 v46 v47 v48) W := by
  refine wpAnyH_all (rs := [1, 19]) (by kernel_rfl) (by simp) ?_
  intro i hi
  simp only [List.mem_cons, List.not_mem_nil, or_false] at hi
  rcases hi with rfl | rfl
  · exact st8_1 H hF hC fun v W' hF' hC' => ⟨ss_below hS hg hF'.bel, T8_110 H hS hg hE hF' hC'⟩
  · exact st8_19 0 hF hC fun v W' hF' hC' => ⟨ss_below hS hg hF'.bel, T8_011 H hS hg hE hF' hC'⟩
theorem T8_001 {w : World} {f : Nat → Value} {sl : Value} {n : Nat} {ys : List Int} {s0 s1 : ByteArray} {b0 b1 g8 : Nat} {o0 o1 : ByteArray} {Q : Exit → Act → World → Prop} (H : K8 w sl n ys s0 s1 b0 b1) (hS : SS g8 o0 o1 w) (hg : g8 < w.heap.size) (hE : End8 w f sl s0 s1 b0 b1 Q) {v9 v10 v32 v37 v38 v39 v41 v46 v47 v48 : Value} {W : World} (hF : FL8 w false true v9 v10 W) (hC : CH n ys s0 s1 b0 b1 v32 v37 v38 v39 v41 v46 v47 v48 W 0) :
    wpAnyH Tryz.prog .any (bodyOps 8 Tryz.f4.body) Q (SS g8 o0 o1) 11 #[true, false, true, true, true, true, false, false, false, true, false, true, true, true, true, false, false, false, false, true, false, false] (A8 f sl s0 s1 v9 v10 v32 v37 v38 v39 v41 v46 v47 v48) W := by
  refine wpAnyH_all (rs := [1, 18]) (by kernel_rfl) (by simp) ?_
  intro i hi
  simp only [List.mem_cons, List.not_mem_nil, or_false] at hi
  rcases hi with rfl | rfl
  · exact st8_1 H hF hC fun v W' hF' hC' => ⟨ss_below hS hg hF'.bel, T8_101 H hS hg hE hF' hC'⟩
  · exact st8_18 0 hF hC fun v W' hF' hC' => ⟨ss_below hS hg hF'.bel, T8_011 H hS hg hE hF' hC'⟩
theorem T8_000 {w : World} {f : Nat → Value} {sl : Value} {n : Nat} {ys : List Int} {s0 s1 : ByteArray} {b0 b1 g8 : Nat} {o0 o1 : ByteArray} {Q : Exit → Act → World → Prop} (H : K8 w sl n ys s0 s1 b0 b1) (hS : SS g8 o0 o1 w) (hg : g8 < w.heap.size) (hE : End8 w f sl s0 s1 b0 b1 Q) {v9 v10 v32 v37 v38 v39 v41 v46 v47 v48 : Value} {W : World} (hF : FL8 w false false v9 v10 W) (hC : CH n ys s0 s1 b0 b1 v32 v37 v38 v39 v41 v46 v47 v48 W 0) :
    wpAnyH Tryz.prog .any (bodyOps 8 Tryz.f4.body) Q (SS g8 o0 o1) 12 #[true, false, true, true, true, true, false, false, false, true, false, true, true, true, true, false, false, false, false, false, false, false] (A8 f sl s0 s1 v9 v10 v32 v37 v38 v39 v41 v46 v47 v48) W := by
  refine wpAnyH_all (rs := [1, 18, 19]) (by kernel_rfl) (by simp) ?_
  intro i hi
  simp only [List.mem_cons, List.not_mem_nil, or_false] at hi
  rcases hi with rfl | rfl | rfl
  · exact st8_1 H hF hC fun v W' hF' hC' => ⟨ss_below hS hg hF'.bel, T8_100 H hS hg hE hF' hC'⟩
  · exact st8_18 0 hF hC fun v W' hF' hC' => ⟨ss_below hS hg hF'.bel, T8_010 H hS hg hE hF' hC'⟩
  · exact st8_19 0 hF hC fun v W' hF' hC' => ⟨ss_below hS hg hF'.bel, T8_001 H hS hg hE hF' hC'⟩
/-- The frame at the region's start. -/
def A0 (g : Nat → Value) (sl : Value) (num : ByteArray) (g8 : Nat) : Act :=
  { tmps := #[sl, g 1, g 2, g 3, g 4, g 5, g 6, .string num, .pointer (some ⟨g8, 0, none⟩), g 9, g 10, g 11, g 12, g 13, g 14, g 15, g 16, g 17, g 18, g 19, g 20, g 21, g 22, g 23, g 24, g 25, g 26, g 27, g 28, g 29, g 30, g 31, g 32, g 33, g 34, g 35, g 36, g 37, g 38, g 39, g 40, g 41, g 42, g 43, g 44, g 45, g 46, g 47, g 48, g 49, g 50, g 51, g 52, g 53, g 54, g 55, g 56, g 57, g 58, g 59, g 60, g 61, g 62, g 63, g 64, g 65, g 66, g 67], defers := [] }
def up (g : Nat → Value) (d : Nat) (v : Value) : Nat → Value := fun j => if j = d then v else g j
theorem take8 {i d : Nat} {o : Oper} {g : Nat → Value} {sl : Value} {num : ByteArray} {g8 : Nat} {S : World → Prop} {Q : Exit → Act → World → Prop} {fuel : Nat} {listed : Array Bool} {W : World} {v : Value} (ho : (bodyOps 8 Tryz.f4.body)[i]? = some o) (h3 : o.guard = none) (h4 : o.dst = some d)
    (hput : (A0 g sl num g8).put (some d) v = A0 (up g d v) sl num g8) (hf : Region.free .any (bodyOps 8 Tryz.f4.body) listed i = true) (hr : (Region.ready .any (bodyOps 8 Tryz.f4.body) listed).contains i = true) (hQ : ∀ c (a : Act) (d : Nat) v w, Q (.panic c) (a.put (some d) v) w → Q (.panic c) a w)
    (hy : ∀ w, S w → (execOp (A0 g sl num g8).eval o).run Tryz.prog w = .ok (.value v) w) (hS : S W)
    (h : wpAnyH Tryz.prog .any (bodyOps 8 Tryz.f4.body) Q S fuel (listed.setIfInBounds i true) (A0 (up g d v) sl num g8) W) : wpAnyH Tryz.prog .any (bodyOps 8 Tryz.f4.body) Q S (fuel + 1) listed (A0 g sl num g8) W := by
  refine wpAnyH_take ho (by kernel_rfl) hf hr (fun c a w h => hQ c a d _ w (h4 ▸ h)) (Or.inl ⟨by simp [Region.wanted, h3], hy⟩) hS ?_
  rw [h4, hput]
  exact h
theorem op8_0 : ∃ o, (bodyOps 8 Tryz.f4.body)[0]? = some o ∧ o.op = .move (.tmp 0) ∧ o.guard = none ∧ o.dst = some 31 := ⟨_, rfl, by kernel_rfl, by kernel_rfl, by kernel_rfl⟩
theorem op8_2 : ∃ o, (bodyOps 8 Tryz.f4.body)[2]? = some o ∧ o.op = .indexAddr 37 (.tmp 8) (.const (.int .i64 0)) ∧ o.guard = none ∧ o.dst = some 33 := ⟨_, rfl, by kernel_rfl, by kernel_rfl, by kernel_rfl⟩
theorem op8_3 : ∃ o, (bodyOps 8 Tryz.f4.body)[3]? = some o ∧ o.op = .load 9 (.tmp 33) ∧ o.guard = none ∧ o.dst = some 34 := ⟨_, rfl, by kernel_rfl, by kernel_rfl, by kernel_rfl⟩
theorem op8_4 : ∃ o, (bodyOps 8 Tryz.f4.body)[4]? = some o ∧ o.op = .move (.tmp 7) ∧ o.guard = none ∧ o.dst = some 35 := ⟨_, rfl, by kernel_rfl, by kernel_rfl, by kernel_rfl⟩
theorem op8_5 : ∃ o, (bodyOps 8 Tryz.f4.body)[5]? = some o ∧ o.op = .binOp .add 9 (.tmp 34) (.tmp 35) 9 ∧ o.guard = none ∧ o.dst = some 36 := ⟨_, rfl, by kernel_rfl, by kernel_rfl, by kernel_rfl⟩
theorem op8_9 : ∃ o, (bodyOps 8 Tryz.f4.body)[9]? = some o ∧ o.op = .move (.tmp 0) ∧ o.guard = none ∧ o.dst = some 40 := ⟨_, rfl, by kernel_rfl, by kernel_rfl, by kernel_rfl⟩
theorem op8_11 : ∃ o, (bodyOps 8 Tryz.f4.body)[11]? = some o ∧ o.op = .indexAddr 37 (.tmp 8) (.const (.int .i64 1)) ∧ o.guard = none ∧ o.dst = some 42 := ⟨_, rfl, by kernel_rfl, by kernel_rfl, by kernel_rfl⟩
theorem op8_12 : ∃ o, (bodyOps 8 Tryz.f4.body)[12]? = some o ∧ o.op = .load 9 (.tmp 42) ∧ o.guard = none ∧ o.dst = some 43 := ⟨_, rfl, by kernel_rfl, by kernel_rfl, by kernel_rfl⟩
theorem op8_13 : ∃ o, (bodyOps 8 Tryz.f4.body)[13]? = some o ∧ o.op = .move (.tmp 7) ∧ o.guard = none ∧ o.dst = some 44 := ⟨_, rfl, by kernel_rfl, by kernel_rfl, by kernel_rfl⟩
theorem op8_14 : ∃ o, (bodyOps 8 Tryz.f4.body)[14]? = some o ∧ o.op = .binOp .add 9 (.tmp 43) (.tmp 44) 9 ∧ o.guard = none ∧ o.dst = some 45 := ⟨_, rfl, by kernel_rfl, by kernel_rfl, by kernel_rfl⟩
set_option maxRecDepth 100000 in
set_option maxHeartbeats 4000000 in
theorem reg8 {w w0 : World} {a : Act} {sl : Value} {n : Nat} {ys : List Int} {num : ByteArray} {b0 b1 g8 : Nat} {o0 o1 : ByteArray} {Q : Exit → Act → World → Prop} {ops : Array Oper} (hops : ops = (bodyOps 8 Tryz.f4.body)) (ha : a = A0 (fun j => a.tmps.getD j undef) sl num g8) (hw : w = w0.drew)
    (H : K8 w sl n ys (o0 ++ num) (o1 ++ num) b0 b1) (hS : SS g8 o0 o1 w) (hg : g8 < w.heap.size) (hz0 : o0.size + num.size ≤ 9223372036854775807) (hz1 : o1.size + num.size ≤ 9223372036854775807) (hE : ∀ f, End8 w f sl (o0 ++ num) (o1 ++ num) b0 b1 Q) (hQ : ∀ c (a : Act) (d : Nat) v w, Q (.panic c) (a.put (some d) v) w → Q (.panic c) a w) :
    (Code.region 8 ops true).wp Tryz.prog Q a w0 := by
  subst hops
  generalize (fun j => a.tmps.getD j undef) = g at ha
  subst ha
  refine wp_region_held_drew (S := SS g8 o0 o1) (by kernel_rfl) (by rw [← hw]; exact hS) (fun _ => ?_)
  rw [← hw]
  clear hw
  show wpAnyH Tryz.prog .any (bodyOps 8 Tryz.f4.body) Q (SS g8 o0 o1) 22 #[false, false, false, false, false, false, false, false, false, false, false, false, false, false, false, false, false, false, false, false, false, false] _ w
  obtain ⟨o, ho, h1, h3, h4⟩ := op8_0
  refine take8 (v := sl) ho h3 h4 rfl (by kernel_rfl) (by kernel_rfl) hQ ?_ hS ?_
  · intro W hs
    have hs0 := hs.1
    have hs1 := hs.2
    clear hS hs
    simp only [execOp, h1]
    unfold A0
    first | (simp [Act.eval, up]; done) | (go_simp; done) | (simp only [up]; go_simp; done)
  clear ho h1 h3 h4
  obtain ⟨o, ho, h1, h3, h4⟩ := op8_2
  refine take8 (v := .pointer (some ⟨g8, 0, none⟩)) ho h3 h4 rfl (by kernel_rfl) (by kernel_rfl) hQ ?_ hS ?_
  · intro W hs
    have hs0 := hs.1
    have hs1 := hs.2
    clear hS hs
    simp only [execOp, h1]
    unfold A0
    first | (simp [Act.eval, up]; done) | (go_simp; done) | (simp only [up]; go_simp; done)
  clear ho h1 h3 h4
  obtain ⟨o, ho, h1, h3, h4⟩ := op8_3
  refine take8 (v := .string o0) ho h3 h4 rfl (by kernel_rfl) (by kernel_rfl) hQ ?_ hS ?_
  · intro W hs
    have hs0 := hs.1
    have hs1 := hs.2
    clear hS hs
    simp only [execOp, h1]
    unfold A0
    first | (simp [Act.eval, up]; done) | (go_simp; done) | (simp only [up]; go_simp; done)
  clear ho h1 h3 h4
  obtain ⟨o, ho, h1, h3, h4⟩ := op8_4
  refine take8 (v := .string num) ho h3 h4 rfl (by kernel_rfl) (by kernel_rfl) hQ ?_ hS ?_
  · intro W hs
    have hs0 := hs.1
    have hs1 := hs.2
    clear hS hs
    simp only [execOp, h1]
    unfold A0
    first | (simp [Act.eval, up]; done) | (go_simp; done) | (simp only [up]; go_simp; done)
  clear ho h1 h3 h4
  obtain ⟨o, ho, h1, h3, h4⟩ := op8_5
  refine take8 (v := .string (o0 ++ num)) ho h3 h4 rfl (by kernel_rfl) (by kernel_rfl) hQ ?_ hS ?_
  · intro W hs
    have hs0 := hs.1
    have hs1 := hs.2
    clear hS hs
    simp only [execOp, h1]
    unfold A0
    first | (simp [Act.eval, up]; done) | (go_simp; done) | (simp only [up]; go_simp; done)
  clear ho h1 h3 h4
  obtain ⟨o, ho, h1, h3, h4⟩ := op8_9
  refine take8 (v := sl) ho h3 h4 rfl (by kernel_rfl) (by kernel_rfl) hQ ?_ hS ?_
  · intro W hs
    have hs0 := hs.1
    have hs1 := hs.2
    clear hS hs
    simp only [execOp, h1]
    unfold A0
    first | (simp [Act.eval, up]; done) | (go_simp; done) | (simp only [up]; go_simp; done)
  clear ho h1 h3 h4
  obtain ⟨o, ho, h1, h3, h4⟩ := op8_11
  refine take8 (v := .pointer (some ⟨g8, 1, none⟩)) ho h3 h4 rfl (by kernel_rfl) (by kernel_rfl) hQ ?_ hS ?_
  · intro W hs
    have hs0 := hs.1
    have hs1 := hs.2
    clear hS hs
    simp only [execOp, h1]
    unfold A0
    first | (simp [Act.eval, up]; done) | (go_simp; done) | (simp only [up]; go_simp; done)
  clear ho h1 h3 h4
  obtain ⟨o, ho, h1, h3, h4⟩ := op8_12
  refine take8 (v := .string o1) ho h3 h4 rfl (by kernel_rfl) (by kernel_rfl) hQ ?_ hS ?_
  · intro W hs
    have hs0 := hs.1
    have hs1 := hs.2
    clear hS hs
    simp only [execOp, h1]
    unfold A0
    first | (simp [Act.eval, up]; done) | (go_simp; done) | (simp only [up]; go_simp; done)
  clear ho h1 h3 h4
  obtain ⟨o, ho, h1, h3, h4⟩ := op8_13
  refine take8 (v := .string num) ho h3 h4 rfl (by kernel_rfl) (by kernel_rfl) hQ ?_ hS ?_
  · intro W hs
    have hs0 := hs.1
    have hs1 := hs.2
    clear hS hs
    simp only [execOp, h1]
    unfold A0
    first | (simp [Act.eval, up]; done) | (go_simp; done) | (simp only [up]; go_simp; done)
  clear ho h1 h3 h4
  obtain ⟨o, ho, h1, h3, h4⟩ := op8_14
  refine take8 (v := .string (o1 ++ num)) ho h3 h4 rfl (by kernel_rfl) (by kernel_rfl) hQ ?_ hS ?_
  · intro W hs
    have hs0 := hs.1
    have hs1 := hs.2
    clear hS hs
    simp only [execOp, h1]
    unfold A0
    first | (simp [Act.eval, up]; done) | (go_simp; done) | (simp only [up]; go_simp; done)
  clear ho h1 h3 h4
  exact T8_000 (f := fun j => if j = 7 then .string num else if j = 8 then .pointer (some ⟨g8, 0, none⟩) else (up (up (up (up (up (up (up (up (up (up g 31 (sl)) 33 (.pointer (some ⟨g8, 0, none⟩))) 34 (.string o0)) 35 (.string num)) 36 (.string (o0 ++ num))) 40 (sl)) 42 (.pointer (some ⟨g8, 1, none⟩))) 43 (.string o1)) 44 (.string num)) 45 (.string (o1 ++ num))) j) H hS hg (hE _) (FL8.mk (Below.refl _ _) (fun e => by cases e) (fun e => by cases e) (fun e => by cases e)) (show CH n ys (o0 ++ num) (o1 ++ num) b0 b1 _ _ _ _ _ _ _ _ w 0 from trivial)
end Go.Proofs.YtkhgaenffnoimaaGreatDoor
