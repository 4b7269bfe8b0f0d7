/- in, out of the implementation's door. -/
import Derived.Test.YtkhgaenffnoimaaGreatDoorI1
set_option linter.unusedSimpArgs false
set_option linter.unusedVariables false
namespace Go.Proofs.YtkhgaenffnoimaaGreatDoor
open Go.RowKit
attribute [local go_sem] run_store_float
set_option maxRecDepth 100000 in
set_option maxHeartbeats 2000000 in
theorem c29 (xs : List I) (A : Option Addr) (c : Nat) (w : World) (hl : xs.length ≤ 1000) (h0 : 0 < xs.length) (hx : IRow w A xs) :
    Calls Tryz.prog 29 #[.slice A xs.length c] w (RetI w xs) := by
  rcases hx.icell with rfl | ⟨g, rfl, hg, hc⟩
  · cases h0
  have HC := Lib.hid hc
  clear hc hx
  obtain ⟨n, hn⟩ : ∃ n, n = xs.length := ⟨_, rfl⟩
  rw [← hn] at hl ⊢
  have HN := Lib.hid hn
  clear hn
  go_enter Tryz.func29, Tryz.ntmps29
  go_wp2_with fail
  go_loopw [3, 11] (fun v i wr => ∃ k : Nat, k ≤ n ∧ i = .int .i64 k ∧ Below w.heap.size w wr ∧ Own w wr 52 4 v ((xs.take k).map I.cells)) (fun _ i _ => n - (intOf i).toNat)
  case atStart => exact ⟨0, Nat.zero_le _, rfl, Below.refl _ _, own_nil _ _ _ _⟩
  case round =>
    obtain ⟨k, hk, rfl, hb, ho⟩ := hrel
    have HO := Lib.hid ho
    clear ho
    have hwr := hb.size
    by_cases hlt : k < n
    · have hkx : k < xs.length := by rw [← HN.out]; exact hlt
      obtain ⟨v, hv⟩ : ∃ v, xs[k]? = some v := ⟨_, List.getElem?_eq_getElem hkx⟩
      obtain ⟨h0, h1, h2, h3⟩ := (HC.out k v hv).below hb hg
      have HV := Lib.hid hv
      clear hv
      go_wp2_with fail
      refine wp_loop_rounds 1 ?_
      rw [rounds_succ]
      go_wp2_with (at_builtin; refine appI 54 52 under54 info52 _ (xs.take k) v _ _ rfl rfl rfl (by change Value.slice (some ⟨wr.heap.size + 1 + 1, 0, none⟩) 1 1 = _; simp) (HO.out.below (Below.alloc (Below.alloc (Below.refl _ _) (Nat.le_refl _) _) (by simp) _)) (Below.alloc (Below.alloc hb hwr _) (by simp; omega) _) (by rw [List.length_take]; omega) ?_; intro v1 w2 ho2 hb2)
      go_roundw
      case rel => exact ⟨k + 1, by omega, by go_num, hb2, by rw [take_succ_of HV.out]; exact ho2⟩
      case measure => simp [intOf]; omega
    · have hk' : k = xs.length := by rw [← HN.out]; omega
      go_wp2_with fail
      go_ret
      have := HO.out
      rw [hk', List.take_length] at this
      rw [HN.out]
      exact this.retI hb
set_option maxRecDepth 100000 in
set_option maxHeartbeats 1000000 in
theorem c27 (i : I) (w : World) : Calls Tryz.prog 27 #[.agg #[.int .i64 i.k, .float .f64 i.b, .string i.t, .slice none 0 0]] w (Ret w (.agg #[.int .i64 i.k, .float .f64 i.b, .string i.t, .slice none 0 0])) := by
  go_enter Tryz.func27, Tryz.ntmps27
  go_wp2_with fail
  refine wp_loop_rounds 1 ?_
  rw [rounds_succ]
  go_wp2_with fail
  exact bodyPost_ret (v := .agg #[.int .i64 i.k, .float .f64 i.b, .string i.t, .slice none 0 0]) (by first | (simp [results, Tryz.results27, go_sem, hc1, hz1]; done) | (simp [results, Tryz.results27, go_sem]; done) | (simp [results, Tryz.results27, go_sem, *]; done)) rfl (ret_mk (by repeat (first | (with_reducible exact Below.refl _ _) | (with_reducible assumption) | ((with_reducible refine Below.alloc ?_ ?_ _); rotate_left; focus (first | exact Nat.le_refl _ | omega | (simp; done) | (simp; omega))) | ((with_reducible refine Below.setCell ?_ ?_ _); rotate_left; focus (first | exact Nat.le_refl _ | omega | (simp; done) | (simp; omega))) | (with_reducible refine Below.drew ?_) | (with_reducible refine below_drewN ?_ _) | ((with_reducible refine below_via (by assumption) ?_ ?_); focus (first | exact Nat.le_refl _ | omega | (simp; done) | (simp; omega))))))
end Go.Proofs.YtkhgaenffnoimaaGreatDoor
