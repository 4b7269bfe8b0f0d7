/- fmtEFG of a whole number. -/
import Derived.Test.YtpahhejkpdkjmaaGreatDoorSD
import Derived.Test.YtpahhejkpdkjmaaGreatDoorB2
set_option linter.unusedSimpArgs false
set_option linter.unusedVariables false
namespace Go.Proofs.YtpahhejkpdkjmaaGreatDoor
open Go.RowKit
attribute [local go_sem] run_store_float
theorem under117 : Tryz.prog.underlying 117 = some (.slice 5) := by kernel_rfl
theorem info5 : (Tryz.prog.info? 5).map (fun i => (i.zero, i.size, i.bytes)) = some (some (.int .u8 0), 1, 1) := by kernel_rfl
/-- append of one byte: as app1, with a word on the other blocks. -/
theorem app5 {ops : Array Oper} {rest : List Oper} {o : Oper} {a : Act} {Q : Exit → Act → World → Prop} {w0 W : World} (v : Value) (xs : List (List Value)) (y : Int) (s x : Operand) (hgd : o.guard = none)
    (ho : o.op = .call { callee := .builtin .append, args := #[s, x], argTypes := #[117, 117] })
    (hs : a.eval s = v) (hx : a.eval x = .slice (some ⟨W.heap.size, 0, none⟩) 1 1)
    (HO : Own w0 W 5 1 v xs) (HB : Below w0.heap.size w0 W) (hl : xs.length ≤ 100000)
    (h : ∀ v1 w1, Own w0 w1 5 1 v1 (xs ++ [[.int .u8 y]]) → Below w0.heap.size w0 w1 → (∀ k, k < W.heap.size → v.ownBlock ≠ some k → w1.heap[k]? = W.heap[k]? ∧ v1.ownBlock ≠ some k) → W.heap.size ≤ w1.heap.size → wpList Tryz.prog ops Q rest (a.put o.dst v1) w1) :
    wpList Tryz.prog ops Q (o :: rest) a (W.alloc (.cells #[.int .u8 y] 5)) := by
  obtain ⟨i0, hi, hzz⟩ := Option.map_eq_some_iff.1 info5
  simp only [Prod.mk.injEq] at hzz
  obtain ⟨hz0, hz1, hz2⟩ := hzz
  refine wpList_append_own_at (W.alloc (.cells #[.int .u8 y] 5)) hgd s x 117 ho w0.heap.size 5 i0 (.int .u8 0) 1 1 under117 hi hz0 hz1 hz2 rfl (by decide) v xs.length xs.flatten hs (HO.1.alloc _) ⟨W.heap.size, 0, none⟩ 1 1 [.int .u8 y] hx rfl
    (fun j u hu => by rw [addr0, cell_of_row _ W.heap.size j _ 5 (0, 0) (heap_alloc_new W (.cells #[.int .u8 y] 5))]; simpa using hu) (by intro u hu; simp only [List.mem_cons, List.not_mem_nil, or_false] at hu; subst hu; rfl) (by simp only [maxLen]; omega) (by omega) (by have := HB.size; simp; omega) ?_
  intro v1 w1 hown hg _ hob
  have hsz := hg.size
  simp at hsz
  refine h v1 w1 ⟨?_, ?_⟩ ((HB.alloc HB.size _).grown hg (by have := HB.size; simp; omega) fun k hk => (HO.1.lt k hk).1) (fun k hk hne => ⟨?_, ?_⟩) (by omega)
  · simpa using hown
  · intro c hc
    rcases List.mem_append.1 hc with hc | hc
    · exact HO.2 c hc
    · simp at hc
      rw [hc]; rfl
  · rw [hg.block k (by simp; omega) (fun e => hne e.symm)]
    exact Below.heap_alloc W _ k hk
  · rcases hob with e | e
    · rw [e]; exact hne
    · rw [e]
      intro e2
      have := Option.some.inj e2
      simp at this
      omega
/-- Bytes of ASCII, one a row. -/
def BS (ys : List (List Value)) : Prop := ∀ y, y ∈ ys → ∃ x : Nat, x < 128 ∧ y = [.int .u8 x]
theorem BS.snoc {ys : List (List Value)} {x : Nat} (h : BS ys) (hx : x < 128) : BS (ys ++ [[.int .u8 x]]) := fun y hy => by
  rcases List.mem_append.1 hy with hy | hy
  · exact h y hy
  · simp at hy
    exact ⟨x, hx, hy⟩
theorem cell_heap_eq {w w1 : World} {b j : Nat} (h : w1.heap[b]? = w.heap[b]?) : w1.cell? ⟨b, j, none⟩ = w.cell? ⟨b, j, none⟩ := World.cell?_of_block h
set_option maxRecDepth 100000 in
set_option maxHeartbeats 1000000 in
theorem c243z (w0 : World) (v : Value) (w : World) (HO : Own w0 w 5 1 v []) (HB : Below w0.heap.size w0 w) :
    Calls Tryz.prog 243 #[v, .bool false, .slice none 0 0, .int .i64 0, .int .i64 0, .int .i64 (-1), .int .u8 103, .bool true] w
      (fun e w' => ∃ v1 ys, e = .returned v1 ∧ Own w0 w' 5 1 v1 ys ∧ ys.length = 1 ∧ BS ys ∧ Below w0.heap.size w0 w') := by
  go_enter Tryz.func243, Tryz.ntmps243
  go_wp2_with (at_builtin; refine app5 v [] 48 _ _ rfl rfl rfl (by first | rfl | (change Value.slice (some ⟨_, 0, none⟩) 1 1 = _; simp)) HO HB (by simp) ?_; intro v1 w2 ho2 hb2 _ _)
  go_ret
  exact ⟨v1, _, rfl, ho2, rfl, fun y hy => ⟨48, by decide, by simpa using hy⟩, hb2⟩
end Go.Proofs.YtpahhejkpdkjmaaGreatDoor
