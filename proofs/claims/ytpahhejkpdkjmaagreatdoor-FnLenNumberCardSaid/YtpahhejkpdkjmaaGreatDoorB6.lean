/- First, AsText on a text. -/
import Derived.Test.YtpahhejkpdkjmaaGreatDoorB5
import Derived.Test.YtpahhejkpdkjmaaGreatDoorA6
set_option linter.unusedSimpArgs false
set_option linter.unusedVariables false
namespace Go.Proofs.YtpahhejkpdkjmaaGreatDoor
open Go.RowKit
attribute [local go_sem] run_store_float
def FirstR (xs : List V) (r : Value) : Prop := ∃ (u : V) (b : Bool), r = .tuple #[.agg #[.int .i64 u.k, .int .i64 u.n, .int .i64 u.d, .string u.t, .slice none 0 0], .bool b] ∧ (b = false → ∀ v, v ∈ xs → v.k ≠ 6 ∧ v.k ≠ 4) ∧ (b = true → u ∈ xs ∧ (u.k = 6 ∨ u.k = 4))
set_option maxRecDepth 100000 in
set_option maxHeartbeats 2000000 in
theorem c203 (xs : List V) (A : Option Addr) (c : Nat) (w : World) (hl : xs.length ≤ 1000) (hx : VRow w A xs) (hk : ∀ v, v ∈ xs → v.k ≠ 5) :
    Calls Tryz.prog 203 #[.slice A xs.length c] w (RetV w (FirstR xs)) := by
  go_enter Tryz.func203, Tryz.ntmps203
  go_wp2_with fail
  have hbW : Below w.heap.size w (w.alloc (.cells #[.int .i64 0, .int .i64 0, .int .i64 0, .string ⟨#[]⟩, .slice none 0 0] 27)) := (by repeat (first | (with_reducible exact Below.refl _ _) | (with_reducible assumption) | ((with_reducible refine Below.alloc ?_ ?_ _); rotate_left; focus (first | exact Nat.le_refl _ | omega | (simp; done) | (simp; omega))) | ((with_reducible refine Below.setCell ?_ ?_ _); rotate_left; focus (first | exact Nat.le_refl _ | omega | (simp; done) | (simp; omega))) | (with_reducible refine Below.drew ?_) | (with_reducible refine below_drewN ?_ _) | ((with_reducible refine below_via (by assumption) ?_ ?_); focus (first | exact Nat.le_refl _ | omega | (simp; done) | (simp; omega)))))
  (go_at_call 30; refine (c30 xs A c _ hl (hx.below hbW) hk).mono ?_; rintro e w1 ⟨A', c', rfl, hx', hb1⟩; obtain ⟨hc1, hf1, hz1⟩ := bcell hb1; have hle1 := hb1.size; try have hs1 : w.heap.size < w1.heap.size := hz1 _ (by first | (simp; done) | (simp; omega) | omega); try have hs2 : w.heap.size + 1 < w1.heap.size := hz1 _ (by first | (simp; done) | (simp; omega) | omega); try have hs3 : w.heap.size + 1 + 1 < w1.heap.size := hz1 _ (by first | (simp; done) | (simp; omega) | omega))
  have hb : Below w.heap.size w w1 := below_then hbW (by simp) hb1
  obtain ⟨n, hn⟩ : ∃ n, n = xs.length := ⟨_, rfl⟩
  rw [← hn] at hl ⊢
  have HN := Lib.hid hn
  clear hn
  have HK := Lib.hid hk
  clear hk hx
  rcases hx' with rfl | ⟨g, rfl, hg, hc⟩
  · have hn0 : n = 0 := HN.out
    go_wp2_with fail
    refine wp_loop_rounds 1 ?_
    rw [rounds_succ]
    go_wp2_with fail
    refine wp_loop_rounds 1 ?_
    rw [rounds_succ]
    go_wp2_with fail
    (refine bodyPost_ret (v := .tuple #[.agg #[.int .i64 0, .int .i64 0, .int .i64 0, .string ⟨#[]⟩, .slice none 0 0], .bool false]) ?_ rfl ?_; (focus (first | (simp [results, Tryz.results203, go_sem, hc1, hz1]; done) | (simp [results, Tryz.results203, go_sem]; done) | (simp [results, Tryz.results203, go_sem, *]; done))); exact retV_mk _ ⟨⟨0, 0, 0, ⟨#[]⟩⟩, false, rfl, fun _ v h => (nomatch h), fun h => (nomatch h)⟩ (by repeat (first | (with_reducible exact Below.refl _ _) | (with_reducible assumption) | ((with_reducible refine Below.alloc ?_ ?_ _); rotate_left; focus (first | exact Nat.le_refl _ | omega | (simp; done) | (simp; omega))) | ((with_reducible refine Below.setCell ?_ ?_ _); rotate_left; focus (first | exact Nat.le_refl _ | omega | (simp; done) | (simp; omega))) | (with_reducible refine Below.drew ?_) | (with_reducible refine below_drewN ?_ _) | ((with_reducible refine below_via (by assumption) ?_ ?_); focus (first | exact Nat.le_refl _ | omega | (simp; done) | (simp; omega))))))
  · have HC := Lib.hid hc
    clear hc
    go_wp2_with fail
    go_loopw [4] (fun i wr => wr = w1 ∧ ∃ k : Nat, k ≤ n ∧ i = .int .i64 k ∧ ∀ j v, j < k → xs[j]? = some v → v.k ≠ 6) (fun i _ => n - (intOf i).toNat)
    case atStart => exact ⟨rfl, 0, Nat.zero_le _, rfl, fun j v h => absurd h (Nat.not_lt_zero _)⟩
    case round =>
      obtain ⟨rfl, k, hk, rfl, ha⟩ := hrel
      have HA := Lib.hid ha
      clear ha
      by_cases hlt : k < n
      · have hkx : k < xs.length := by rw [← HN.out]; exact hlt
        obtain ⟨v, hv⟩ : ∃ v, xs[k]? = some v := ⟨_, List.getElem?_eq_getElem hkx⟩
        have hvm : v ∈ xs := List.mem_of_getElem? hv
        obtain ⟨h0, h1, h2, h3, h4⟩ := HC.out k v hv
        have HV := Lib.hid hv
        clear hv
        go_wp2_with fail
        · rename_i h6
          (refine bodyPost_ret (v := .tuple #[.agg #[.int .i64 v.k, .int .i64 v.n, .int .i64 v.d, .string v.t, .slice none 0 0], .bool true]) ?_ rfl ?_; (focus (first | (simp [results, Tryz.results203, go_sem, hc1, hz1]; done) | (simp [results, Tryz.results203, go_sem]; done) | (simp [results, Tryz.results203, go_sem, *]; done))); exact retV_mk _ ⟨v, true, rfl, fun h => (nomatch h), fun _ => ⟨hvm, .inl (by simpa using h6)⟩⟩ (by repeat (first | (with_reducible exact Below.refl _ _) | (with_reducible assumption) | ((with_reducible refine Below.alloc ?_ ?_ _); rotate_left; focus (first | exact Nat.le_refl _ | omega | (simp; done) | (simp; omega))) | ((with_reducible refine Below.setCell ?_ ?_ _); rotate_left; focus (first | exact Nat.le_refl _ | omega | (simp; done) | (simp; omega))) | (with_reducible refine Below.drew ?_) | (with_reducible refine below_drewN ?_ _) | ((with_reducible refine below_via (by assumption) ?_ ?_); focus (first | exact Nat.le_refl _ | omega | (simp; done) | (simp; omega))))))
        · rename_i h6
          go_roundw
          case rel => exact ⟨by first | rfl | trivial, k + 1, by omega, by go_num, fun j v' hj hv' => by
            rcases Nat.lt_or_ge j k with h | h
            · exact HA.out j v' h hv'
            · obtain rfl : j = k := by omega
              rw [HV.out] at hv'
              cases hv'
              simpa using h6⟩
          case measure => simp [intOf]; omega
      · have hkn : k = n := by omega
        have HA6 : Hid (∀ v, v ∈ xs → v.k ≠ 6) := Lib.hid fun v hv => by
          obtain ⟨j, hj⟩ := List.getElem?_of_mem hv
          exact HA.out j v (by have := (List.getElem?_eq_some_iff.1 hj).1; rw [← HN.out] at this; omega) hj
        clear HA
        go_wp2_with fail
        go_loopw [5] (fun i wr' => wr' = wr ∧ ∃ k : Nat, k ≤ n ∧ i = .int .i64 k ∧ ∀ j v, j < k → xs[j]? = some v → v.k ≠ 4) (fun i _ => n - (intOf i).toNat)
        case atStart => exact ⟨rfl, 0, Nat.zero_le _, rfl, fun j v h => absurd h (Nat.not_lt_zero _)⟩
        case round =>
          obtain ⟨rfl, k, hk, rfl, ha⟩ := hrel
          have HA := Lib.hid ha
          clear ha
          by_cases hlt : k < n
          · have hkx : k < xs.length := by rw [← HN.out]; exact hlt
            obtain ⟨v, hv⟩ : ∃ v, xs[k]? = some v := ⟨_, List.getElem?_eq_getElem hkx⟩
            have hvm : v ∈ xs := List.mem_of_getElem? hv
            obtain ⟨h0, h1, h2, h3, h4⟩ := HC.out k v hv
            have HV := Lib.hid hv
            clear hv
            go_wp2_with fail
            · rename_i h6
              (refine bodyPost_ret (v := .tuple #[.agg #[.int .i64 v.k, .int .i64 v.n, .int .i64 v.d, .string v.t, .slice none 0 0], .bool true]) ?_ rfl ?_; (focus (first | (simp [results, Tryz.results203, go_sem, hc1, hz1]; done) | (simp [results, Tryz.results203, go_sem]; done) | (simp [results, Tryz.results203, go_sem, *]; done))); exact retV_mk _ ⟨v, true, rfl, fun h => (nomatch h), fun _ => ⟨hvm, .inr (by simpa using h6)⟩⟩ (by repeat (first | (with_reducible exact Below.refl _ _) | (with_reducible assumption) | ((with_reducible refine Below.alloc ?_ ?_ _); rotate_left; focus (first | exact Nat.le_refl _ | omega | (simp; done) | (simp; omega))) | ((with_reducible refine Below.setCell ?_ ?_ _); rotate_left; focus (first | exact Nat.le_refl _ | omega | (simp; done) | (simp; omega))) | (with_reducible refine Below.drew ?_) | (with_reducible refine below_drewN ?_ _) | ((with_reducible refine below_via (by assumption) ?_ ?_); focus (first | exact Nat.le_refl _ | omega | (simp; done) | (simp; omega))))))
            · rename_i h6
              go_roundw
              case rel => exact ⟨by first | rfl | trivial, k + 1, by omega, by go_num, fun j v' hj hv' => by
                rcases Nat.lt_or_ge j k with h | h
                · exact HA.out j v' h hv'
                · obtain rfl : j = k := by omega
                  rw [HV.out] at hv'
                  cases hv'
                  simpa using h6⟩
              case measure => simp [intOf]; omega
          · have HA4 : Hid (∀ v, v ∈ xs → v.k ≠ 4) := Lib.hid fun v hv => by
              obtain ⟨j, hj⟩ := List.getElem?_of_mem hv
              exact HA.out j v (by have := (List.getElem?_eq_some_iff.1 hj).1; rw [← HN.out] at this; omega) hj
            go_wp2_with fail
            (refine bodyPost_ret (v := .tuple #[.agg #[.int .i64 0, .int .i64 0, .int .i64 0, .string ⟨#[]⟩, .slice none 0 0], .bool false]) ?_ rfl ?_; (focus (first | (simp [results, Tryz.results203, go_sem, hc1, hz1]; done) | (simp [results, Tryz.results203, go_sem]; done) | (simp [results, Tryz.results203, go_sem, *]; done))); exact retV_mk _ ⟨⟨0, 0, 0, ⟨#[]⟩⟩, false, rfl, fun _ v h => ⟨HA6.out v h, HA4.out v h⟩, fun h => (nomatch h)⟩ (by repeat (first | (with_reducible exact Below.refl _ _) | (with_reducible assumption) | ((with_reducible refine Below.alloc ?_ ?_ _); rotate_left; focus (first | exact Nat.le_refl _ | omega | (simp; done) | (simp; omega))) | ((with_reducible refine Below.setCell ?_ ?_ _); rotate_left; focus (first | exact Nat.le_refl _ | omega | (simp; done) | (simp; omega))) | (with_reducible refine Below.drew ?_) | (with_reducible refine below_drewN ?_ _) | ((with_reducible refine below_via (by assumption) ?_ ?_); focus (first | exact Nat.le_refl _ | omega | (simp; done) | (simp; omega))))))
end Go.Proofs.YtpahhejkpdkjmaaGreatDoor
