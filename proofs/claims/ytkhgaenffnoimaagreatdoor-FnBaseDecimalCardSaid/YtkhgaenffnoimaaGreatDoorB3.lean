/- Flat of the reference. -/
import Derived.Test.YtkhgaenffnoimaaGreatDoorB2
set_option linter.unusedSimpArgs false
set_option linter.unusedVariables false
namespace Go.Proofs.YtkhgaenffnoimaaGreatDoor
open Go.RowKit
attribute [local go_sem] run_store_float
theorem under43 : Tryz.prog.underlying 43 = some (.slice 32) := by kernel_rfl
theorem info32 : (Tryz.prog.info? 32).map (fun i => (i.zero, i.size, i.bytes)) = some (some (.agg #[.int .i64 0, .int .i64 0, .int .i64 0, .string ⟨#[]⟩, .slice none 0 0]), 5, 64) := by kernel_rfl
theorem app27 {ops : Array Oper} {rest : List Oper} {o : Oper} {a : Act} {Q : Exit → Act → World → Prop} {w0 W : World} (v : Value) (xs : List V) (y : V) (s x : Operand) (hgd : o.guard = none)
    (ho : o.op = .call { callee := .builtin .append, args := #[s, x], argTypes := #[43, 43] })
    (hs : a.eval s = v) (hx : a.eval x = .slice (some ⟨W.heap.size, 0, none⟩) 1 1)
    (HO : Own w0 W 32 5 v (xs.map V.cells)) (HB : Below w0.heap.size w0 W) (hl : xs.length ≤ 100000)
    (h : ∀ v1 w1, Own w0 w1 32 5 v1 ((xs ++ [y]).map V.cells) → Below w0.heap.size w0 w1 → wpList Tryz.prog ops Q rest (a.put o.dst v1) w1) :
    wpList Tryz.prog ops Q (o :: rest) a (W.alloc (.cells #[.int .i64 y.k, .int .i64 y.n, .int .i64 y.d, .string y.t, .slice none 0 0] 32)) :=
  app1 (ys := y.cells) hgd s x 43 32 _ 5 64 ho under43 info32 rfl (by decide) (by decide) v (xs.map V.cells) hs hx rfl
    (by intro u hu; simp only [V.cells, List.mem_cons, List.not_mem_nil, or_false] at hu; rcases hu with rfl | rfl | rfl | rfl | rfl <;> rfl)
    HO HB (by rw [List.length_map]; omega) (fun v1 w1 h1 hb => h v1 w1 (by simpa using h1) hb)
theorem take_succ_of {α : Type} {xs : List α} {k : Nat} {v : α} (h : xs[k]? = some v) : xs.take (k + 1) = xs.take k ++ [v] := by
  rw [List.take_add_one, h]; rfl
end Go.Proofs.YtkhgaenffnoimaaGreatDoor
