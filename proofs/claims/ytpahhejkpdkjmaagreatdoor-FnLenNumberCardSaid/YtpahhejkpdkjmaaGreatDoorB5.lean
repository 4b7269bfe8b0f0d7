/- doubtful. -/
import Derived.Test.YtpahhejkpdkjmaaGreatDoorB4
set_option linter.unusedSimpArgs false
set_option linter.unusedVariables false
namespace Go.Proofs.YtpahhejkpdkjmaaGreatDoor
open Go.RowKit
attribute [local go_sem] run_store_float
theorem crow_new (W : World) (cs : Array Value) (e : TypeId) (sz s : Nat) (xs : List (List Value)) (hs : s = W.heap.size) (h : cs.toList = xs.flatten) (hl : ∀ c, c ∈ xs → c.length = sz) :
    CRow (W.alloc (.cells cs e)) (some ⟨s, 0, none⟩) sz xs := by
  subst hs
  refine .inr ⟨_, rfl, by simp, fun j c hj i u hu => ?_⟩
  rw [cell_of_row _ W.heap.size _ cs e (0, 0) (heap_alloc_new W (.cells cs e)), ← Array.getElem?_toList, h]
  exact flatten_at xs hl j c hj i u hu
theorem vrow_new (W : World) (cs : Array Value) (s : Nat) (xs : List V) (hs : s = W.heap.size) (h : cs.toList = (xs.map V.cells).flatten) :
    VRow (W.alloc (.cells cs 27)) (some ⟨s, 0, none⟩) xs :=
  (crow_new W cs 27 5 s (xs.map V.cells) hs h (by intro c hc; obtain ⟨v, _, rfl⟩ := List.mem_map.1 hc; rfl)).vrow
set_option maxRecDepth 100000 in
set_option maxHeartbeats 1000000 in
theorem c18 (v : V) (w : World) (hk : v.k ≠ 5) :
    Calls Tryz.prog 18 #[.agg #[.int .i64 v.k, .int .i64 v.n, .int .i64 v.d, .string v.t, .slice none 0 0]] w (RetB w fun b => b = false → v.k ≠ 6) := by
  go_enter Tryz.func18, Tryz.ntmps18
  go_wp2_with fail
  refine (c30 [v] _ _ _ (by simp) (vrow_new _ _ _ [v] (by simp) rfl) (by simpa using hk)).mono ?_
  rintro e w1 ⟨A', c', rfl, hx', hb1⟩
  have hb : Below w.heap.size w w1 := (by repeat (first | (with_reducible exact Below.refl _ _) | (with_reducible assumption) | ((with_reducible refine Below.alloc ?_ ?_ _); rotate_left; focus (first | exact Nat.le_refl _ | omega | (simp; done) | (simp; omega))) | ((with_reducible refine Below.setCell ?_ ?_ _); rotate_left; focus (first | exact Nat.le_refl _ | omega | (simp; done) | (simp; omega))) | (with_reducible refine Below.drew ?_) | (with_reducible refine below_drewN ?_ _) | ((with_reducible refine below_via (by assumption) ?_ ?_); focus (first | exact Nat.le_refl _ | omega | (simp; done) | (simp; omega)))))
  rcases hx' with h | ⟨g, rfl, hg, hc⟩
  · cases h
  obtain ⟨h0, h1, h2, h3, h4⟩ := hc 0 v rfl
  clear hc hb1
  go_wp2_with fail
  refine wp_loop_rounds 2 ?_
  rw [rounds_succ]
  go_wp2_with fail
  · go_ret
    exact retB_mk _ (fun h => nomatch h) hb
  · rename_i hk6
    rw [rounds_succ]
    go_wp2_with fail
    go_ret
    exact retB_mk _ (fun _ h => by simp [h] at hk6) hb
set_option maxRecDepth 100000 in
set_option maxHeartbeats 1000000 in
theorem c18T (xs : List V) (A : Option Addr) (c g2 : Nat) (w : World) (hl : xs.length ≤ 1000) (hx : VRow w A xs) (hA : A = none → xs = []) (hk : ∀ v, v ∈ xs → v.k ≠ 5)
    (hg2 : g2 < w.heap.size) (hr : w.cell? ⟨g2, 0, none⟩ = some (.slice A xs.length c)) :
    Calls Tryz.prog 18 #[.agg #[.int .i64 5, .int .i64 0, .int .i64 0, .string ⟨#[]⟩, .slice (some ⟨g2, 0, none⟩) 1 1]] w (RetB w fun _ => True) := by
  obtain ⟨n, hn⟩ : ∃ n, n = xs.length := ⟨_, rfl⟩
  rw [← hn] at hr
  go_enter Tryz.func18, Tryz.ntmps18
  go_wp2_with fail
  generalize hW : World.alloc w _ = W
  have hbW : Below w.heap.size w W := by rw [← hW]; exact (by repeat (first | (with_reducible exact Below.refl _ _) | (with_reducible assumption) | ((with_reducible refine Below.alloc ?_ ?_ _); rotate_left; focus (first | exact Nat.le_refl _ | omega | (simp; done) | (simp; omega))) | ((with_reducible refine Below.setCell ?_ ?_ _); rotate_left; focus (first | exact Nat.le_refl _ | omega | (simp; done) | (simp; omega))) | (with_reducible refine Below.drew ?_) | (with_reducible refine below_drewN ?_ _) | ((with_reducible refine below_via (by assumption) ?_ ?_); focus (first | exact Nat.le_refl _ | omega | (simp; done) | (simp; omega)))))
  have hsW : W.heap.size = w.heap.size + 1 := by rw [← hW]; simp
  rw [show w.heap.size + 1 = W.heap.size from hsW.symm]
  have hbW2 : Below w.heap.size w (W.alloc (.cells #[.int .i64 5, .int .i64 0, .int .i64 0, .string ⟨#[]⟩, .slice (some ⟨g2, 0, none⟩) 1 1] 27)) := hbW.alloc (by omega) _
  refine (c30T xs A c W.heap.size g2 0 0 ⟨#[]⟩ _ hl (hx.below hbW2) hA hk (by simp) (by simp; omega) (by simp [go_sem]) (by simp [go_sem]) (by simp [go_sem]) (by simp [go_sem]) (by simp [go_sem]) (by rw [← hn, ← hr]; exact hbW2.cell (p := ⟨g2, 0, none⟩) hg2) 1).mono ?_
  rintro e w1 ⟨A', c', rfl, hx', hb1⟩
  have hb : Below w.heap.size w w1 := below_then hbW2 (by simp; omega) hb1
  rw [← hn]
  rw [← hn] at hl
  have HN := Lib.hid hn
  clear hn
  rcases hx' with rfl | ⟨g, rfl, hg, hc⟩
  · have hn0 : n = 0 := HN.out
    clear HN hr hx
    go_wp2_with fail
    refine wp_loop_rounds 1 ?_
    rw [rounds_succ]
    go_wp2_with fail
    go_ret
    exact retB_mk _ trivial hb
  · have HC := Lib.hid hc
    clear hc
    go_wp2_with fail
    go_loopw [4] (fun i wr => ∃ k : Nat, k ≤ n ∧ i = .int .i64 k ∧ wr = w1) (fun i _ => n - (intOf i).toNat)
    case atStart => exact ⟨0, Nat.zero_le _, rfl, rfl⟩
    case round =>
      obtain ⟨k, hk, rfl, rfl⟩ := hrel
      by_cases hlt : k < n
      · have hkx : k < xs.length := by rw [← HN.out]; exact hlt
        obtain ⟨v, hv⟩ : ∃ v, xs[k]? = some v := ⟨_, List.getElem?_eq_getElem hkx⟩
        obtain ⟨h0, h1, h2, h3, h4⟩ := HC.out k v hv
        have HV := Lib.hid hv
        clear hv
        go_wp2_with fail
        · go_ret
          exact retB_mk _ trivial hb
        · go_roundw
          case rel => exact ⟨k + 1, by omega, by go_num, by first | rfl | trivial⟩
          case measure => simp [intOf]; omega
      · go_wp2_with fail
        go_ret
        exact retB_mk _ trivial hb
end Go.Proofs.YtpahhejkpdkjmaaGreatDoor
