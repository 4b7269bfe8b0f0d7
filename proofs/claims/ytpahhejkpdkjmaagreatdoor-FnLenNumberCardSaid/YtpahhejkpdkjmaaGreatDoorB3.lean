/- Flat of the reference. -/
import Derived.Test.YtpahhejkpdkjmaaGreatDoorB2
set_option linter.unusedSimpArgs false
set_option linter.unusedVariables false
namespace Go.Proofs.YtpahhejkpdkjmaaGreatDoor
open Go.RowKit
attribute [local go_sem] run_store_float
theorem under29 : Tryz.prog.underlying 29 = some (.slice 27) := by kernel_rfl
theorem info27 : (Tryz.prog.info? 27).map (fun i => (i.zero, i.size, i.bytes)) = some (some (.agg #[.int .i64 0, .int .i64 0, .int .i64 0, .string ⟨#[]⟩, .slice none 0 0]), 5, 64) := by kernel_rfl
theorem app27 {ops : Array Oper} {rest : List Oper} {o : Oper} {a : Act} {Q : Exit → Act → World → Prop} {w0 W : World} (v : Value) (xs : List V) (y : V) (s x : Operand) (hgd : o.guard = none)
    (ho : o.op = .call { callee := .builtin .append, args := #[s, x], argTypes := #[29, 29] })
    (hs : a.eval s = v) (hx : a.eval x = .slice (some ⟨W.heap.size, 0, none⟩) 1 1)
    (HO : Own w0 W 27 5 v (xs.map V.cells)) (HB : Below w0.heap.size w0 W) (hl : xs.length ≤ 100000)
    (h : ∀ v1 w1, Own w0 w1 27 5 v1 ((xs ++ [y]).map V.cells) → Below w0.heap.size w0 w1 → wpList Tryz.prog ops Q rest (a.put o.dst v1) w1) :
    wpList Tryz.prog ops Q (o :: rest) a (W.alloc (.cells #[.int .i64 y.k, .int .i64 y.n, .int .i64 y.d, .string y.t, .slice none 0 0] 27)) :=
  app1 (ys := y.cells) hgd s x 29 27 _ 5 64 ho under29 info27 rfl (by decide) (by decide) v (xs.map V.cells) hs hx rfl
    (by intro u hu; simp only [V.cells, List.mem_cons, List.not_mem_nil, or_false] at hu; rcases hu with rfl | rfl | rfl | rfl | rfl <;> rfl)
    HO HB (by rw [List.length_map]; omega) (fun v1 w1 h1 hb => h v1 w1 (by simpa using h1) hb)
theorem take_succ_of {α : Type} {xs : List α} {k : Nat} {v : α} (h : xs[k]? = some v) : xs.take (k + 1) = xs.take k ++ [v] := by
  rw [List.take_add_one, h]; rfl
set_option maxRecDepth 100000 in
set_option maxHeartbeats 1000000 in
theorem c30 (xs : List V) (A : Option Addr) (c : Nat) (w : World) (hl : xs.length ≤ 1000) (hx : VRow w A xs) (hk : ∀ v, v ∈ xs → v.k ≠ 5) :
    Calls Tryz.prog 30 #[.slice A xs.length c] w (RetS w xs) := by
  rcases hx with rfl | ⟨g, rfl, hg, hc⟩
  · go_enter Tryz.func30, Tryz.ntmps30
    go_wp2_with fail
    refine wp_loop_rounds 1 ?_
    rw [rounds_succ]
    go_wp2_with fail
    go_ret
    exact ⟨none, 0, rfl, .inl rfl, (by repeat (first | (with_reducible exact Below.refl _ _) | (with_reducible assumption) | ((with_reducible refine Below.alloc ?_ ?_ _); rotate_left; focus (first | exact Nat.le_refl _ | omega | (simp; done) | (simp; omega))) | ((with_reducible refine Below.setCell ?_ ?_ _); rotate_left; focus (first | exact Nat.le_refl _ | omega | (simp; done) | (simp; omega))) | (with_reducible refine Below.drew ?_) | (with_reducible refine below_drewN ?_ _) | ((with_reducible refine below_via (by assumption) ?_ ?_); focus (first | exact Nat.le_refl _ | omega | (simp; done) | (simp; omega)))))⟩
  · have HC := Lib.hid hc
    have HK := Lib.hid hk
    clear hc hk
    obtain ⟨n, hn⟩ : ∃ n, n = xs.length := ⟨_, rfl⟩
    rw [← hn] at hl ⊢
    have HN := Lib.hid hn
    clear hn
    go_enter Tryz.func30, Tryz.ntmps30
    go_wp2_with fail
    go_loopw [3, 4] (fun v i wr => ∃ k : Nat, k ≤ n ∧ i = .int .i64 k ∧ Below w.heap.size w wr ∧ Own w wr 27 5 v ((xs.take k).map V.cells)) (fun _ i _ => n - (intOf i).toNat)
    case atStart => exact ⟨0, Nat.zero_le _, rfl, Below.refl _ _, own_nil _ _ _ _⟩
    case round =>
      obtain ⟨k, hk, rfl, hb, ho⟩ := hrel
      have HO := Lib.hid ho
      clear ho
      have hwr := hb.size
      by_cases hlt : k < n
      · have hkx : k < xs.length := by rw [← HN.out]; exact hlt
        obtain ⟨v, hv⟩ : ∃ v, xs[k]? = some v := ⟨_, List.getElem?_eq_getElem hkx⟩
        have hvm : v ∈ xs := List.mem_of_getElem? hv
        have h5 := HK.out v hvm
        obtain ⟨h0, h1, h2, h3, h4⟩ := (HC.out k v hv).below hb hg
        have HV := Lib.hid hv
        clear hv
        go_wp2_with (at_builtin; refine app27 _ (xs.take k) v _ _ rfl rfl rfl rfl HO.out hb (by rw [List.length_take]; omega) ?_; intro v1 w1 ho1 hb1)
        go_roundw
        case rel => exact ⟨k + 1, by omega, by go_num, hb1, by rw [take_succ_of HV.out]; exact ho1⟩
        case measure => simp [intOf]; omega
      · have hk' : k = xs.length := by rw [← HN.out]; omega
        go_wp2_with fail
        go_ret
        have := HO.out
        rw [hk', List.take_length] at this
        rw [HN.out]
        exact this.retS hb
end Go.Proofs.YtpahhejkpdkjmaaGreatDoor
