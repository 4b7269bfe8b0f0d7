/- The law FnExact. -/
import Derived.Test.YtpahhejkpdkjmaaGreatDoorI2
import Derived.Test.YtpahhejkpdkjmaaGreatDoorJ4
import Derived.Test.YtpahhejkpdkjmaaGreatDoorDE
set_option linter.unusedSimpArgs false
set_option linter.unusedVariables false
namespace Go.Proofs.YtpahhejkpdkjmaaGreatDoor
open Go.RowKit
attribute [local go_sem] run_store_float
theorem enters9 (args : Array Value) (W : World) : (callFunc 9 args).run Tryz.prog W = .ok (.enter 9 args) W := by simp [go_sem]
set_option maxRecDepth 100000 in
set_option maxHeartbeats 1000000 in
theorem c7 (xs : List ByteArray) (A : Option Addr) (c : Nat) (w : World) (hl : xs.length ≤ 1099511627776) (hx : CRow w A 1 (xs.map tcell)) :
    Calls Tryz.prog 7 #[.slice A xs.length c] w (RetB w fun b => b = true → ∀ s, s ∈ xs → s.size ≤ 1000) := by
  obtain ⟨n, hn⟩ : ∃ n, n = xs.length := ⟨_, rfl⟩
  rcases hx with hnil | ⟨g, rfl, hg, hc⟩
  · obtain rfl : xs = [] := by simpa using hnil
    go_enter Tryz.func7, Tryz.ntmps7
    go_wp2_with fail
    refine wp_loop_rounds 1 ?_
    rw [rounds_succ]
    go_wp2_with fail
    go_ret
    exact retB_mk _ (fun _ v h => (nomatch h)) (by repeat (first | (with_reducible exact Below.refl _ _) | (with_reducible assumption) | ((with_reducible refine Below.alloc ?_ ?_ _); rotate_left; focus (first | exact Nat.le_refl _ | omega | (simp; done) | (simp; omega))) | ((with_reducible refine Below.setCell ?_ ?_ _); rotate_left; focus (first | exact Nat.le_refl _ | omega | (simp; done) | (simp; omega))) | (with_reducible refine Below.drew ?_) | (with_reducible refine below_drewN ?_ _) | ((with_reducible refine below_via (by assumption) ?_ ?_); focus (first | exact Nat.le_refl _ | omega | (simp; done) | (simp; omega)))))
  · have HC : Hid (∀ j s, xs[j]? = some s → w.cell? ⟨g, j, none⟩ = some (.string s)) := Lib.hid fun j s hj => by
      have := hc j (tcell s) (by rw [List.getElem?_map, hj]; rfl) 0 _ rfl
      simpa using this
    rw [← hn] at hl ⊢
    have HN := Lib.hid hn
    clear hn hc
    go_enter Tryz.func7, Tryz.ntmps7
    go_wp2_with fail
    go_loopw [3] (fun i wr => wr = w ∧ ∃ k : Nat, k ≤ n ∧ i = .int .i64 k ∧ ∀ j s, j < k → xs[j]? = some s → s.size ≤ 1000) (fun i _ => n - (intOf i).toNat)
    case atStart => exact ⟨rfl, 0, Nat.zero_le _, rfl, fun j v h => absurd h (Nat.not_lt_zero _)⟩
    case round =>
      obtain ⟨rfl, k, hk, rfl, ha⟩ := hrel
      have HA := Lib.hid ha
      clear ha
      by_cases hlt : k < n
      · have hkx : k < xs.length := by rw [← HN.out]; exact hlt
        obtain ⟨v, hv⟩ : ∃ v, xs[k]? = some v := ⟨_, List.getElem?_eq_getElem hkx⟩
        have h0 := HC.out k v hv
        have HV := Lib.hid hv
        clear hv
        by_cases hsz : v.size ≤ 1000
        · go_wp2_with fail
          go_roundw
          case rel => exact ⟨by first | rfl | trivial, k + 1, by omega, by go_num, fun j v' hj hv' => by
            rcases Nat.lt_or_ge j k with h | h
            · exact HA.out j v' h hv'
            · obtain rfl : j = k := by omega
              rw [HV.out] at hv'
              cases hv'
              exact hsz⟩
          case measure => simp [intOf]; omega
        · go_wp2_with fail
          go_ret
          exact retB_mk _ (fun h => (nomatch h)) (by repeat (first | (with_reducible exact Below.refl _ _) | (with_reducible assumption) | ((with_reducible refine Below.alloc ?_ ?_ _); rotate_left; focus (first | exact Nat.le_refl _ | omega | (simp; done) | (simp; omega))) | ((with_reducible refine Below.setCell ?_ ?_ _); rotate_left; focus (first | exact Nat.le_refl _ | omega | (simp; done) | (simp; omega))) | (with_reducible refine Below.drew ?_) | (with_reducible refine below_drewN ?_ _) | ((with_reducible refine below_via (by assumption) ?_ ?_); focus (first | exact Nat.le_refl _ | omega | (simp; done) | (simp; omega)))))
      · go_wp2_with fail
        go_ret
        exact retB_mk _ (fun _ v h => by
          obtain ⟨j, hj⟩ := List.getElem?_of_mem h
          exact HA.out j v (by have := (List.getElem?_eq_some_iff.1 hj).1; rw [← HN.out] at this; omega) hj) (by repeat (first | (with_reducible exact Below.refl _ _) | (with_reducible assumption) | ((with_reducible refine Below.alloc ?_ ?_ _); rotate_left; focus (first | exact Nat.le_refl _ | omega | (simp; done) | (simp; omega))) | ((with_reducible refine Below.setCell ?_ ?_ _); rotate_left; focus (first | exact Nat.le_refl _ | omega | (simp; done) | (simp; omega))) | (with_reducible refine Below.drew ?_) | (with_reducible refine below_drewN ?_ _) | ((with_reducible refine below_via (by assumption) ?_ ?_); focus (first | exact Nat.le_refl _ | omega | (simp; done) | (simp; omega)))))
set_option maxRecDepth 100000 in
set_option maxHeartbeats 1000000 in
theorem c8E (s t : ByteArray) (A : Option Addr) (c : Nat) (w : World) (hs : s.size ≤ 9223372036854775807) (ht : t.size ≤ 9223372036854775807) (hx : VRow w A [⟨2, 0, 0, s⟩, ⟨2, 0, 0, t⟩]) :
    Calls Tryz.prog 8 #[.func (.func 9) #[] #[], .string ⟨#[69, 88, 65, 67, 84]⟩, .slice A 2 c] w (RetB w fun b => b = true) := by
  refine c8 9 ⟨#[69, 88, 65, 67, 84]⟩ [⟨2, 0, 0, s⟩, ⟨2, 0, 0, t⟩] A c w (fun v => ⟨2, 0, v.t⟩) (fun u => u = VD ∨ (u.k = 3 ∧ u.n = b01 (s.toList == t.toList) ∧ u.t = ⟨#[]⟩)) (fun i => i = ⟨3, bt (s.toList == t.toList), ⟨#[]⟩⟩) (by simp) (by simp) hx ?_ enters9 (fun W hW => c17E s t A c W hs ht (hx.below hW)) ?_ ?_ ?_ ?_
  · intro v hv
    simp only [List.mem_cons, List.not_mem_nil, or_false] at hv
    rcases hv with rfl | rfl <;> (show (2 : Int) ≠ 5; decide)
  · rintro u (rfl | ⟨h, _⟩)
    · decide
    · rw [h]; decide
  · intro v hv w'
    simp only [List.mem_cons, List.not_mem_nil, or_false] at hv
    rcases hv with rfl | rfl
    · exact c31_2 0 0 s w'
    · exact c31_2 0 0 t w'
  · intro W A' c' hI
    exact (c9 s t A' c' W hI).mono fun e w' ⟨he, hb⟩ => ⟨_, he, ⟨⟨3, bt (s.toList == t.toList), ⟨#[]⟩⟩, rfl, rfl⟩, hb⟩
  · rintro ⟨uk, un, ud, ut⟩ i (h | ⟨h1, h2, h3⟩) h6 rfl
    · exact absurd (by rw [h]; rfl) h6
    · dsimp only at h1 h2 h3
      subst h1 h2 h3
      cases (s.toList == t.toList)
      · exact ⟨fun w' => c31_3 0 ud ⟨#[]⟩ w', by decide⟩
      · exact ⟨fun w' => by have := c31_3 1 ud ⟨#[]⟩ w'; rw [foi1] at this; exact this, by decide⟩
set_option maxRecDepth 100000 in
set_option maxHeartbeats 2000000 in
theorem c3 (s t : ByteArray) (w : World) : Calls Tryz.prog 3 #[.string s, .string t] w (Ret w (.bool true)) := by
  by_cases h1 : s.size ≤ 2147483647
  · by_cases h2 : t.size ≤ 2147483647
    · go_enter Tryz.func3, Tryz.ntmps3
      go_wp2_with fail
      have hrow : CRow (w.alloc (.cells #[.string s, .string t] 9)) (some ⟨w.heap.size, 0, none⟩) 1 ([s, t].map tcell) := crow_new w _ _ 1 _ _ rfl rfl (by intro c hc; simp at hc; rcases hc with rfl | rfl <;> rfl)
      refine (c7 [s, t] _ _ _ (by simp) hrow).mono ?_
      rintro e w1 ⟨b, rfl, hr, hb1⟩
      have hbw1 : Below w.heap.size w w1 := (by repeat (first | (with_reducible exact Below.refl _ _) | (with_reducible assumption) | ((with_reducible refine Below.alloc ?_ ?_ _); rotate_left; focus (first | exact Nat.le_refl _ | omega | (simp; done) | (simp; omega))) | ((with_reducible refine Below.setCell ?_ ?_ _); rotate_left; focus (first | exact Nat.le_refl _ | omega | (simp; done) | (simp; omega))) | (with_reducible refine Below.drew ?_) | (with_reducible refine below_drewN ?_ _) | ((with_reducible refine below_via (by assumption) ?_ ?_); focus (first | exact Nat.le_refl _ | omega | (simp; done) | (simp; omega)))))
      clear hb1 hrow
      cases b
      · clear hr
        go_wp2_with fail
        go_ret
        exact ret_mk hbw1
      · clear hr
        go_wp2_with fail
        refine (c10 s _).mono ?_
        rintro e w2 ⟨rfl, hb2⟩
        have hbw2 : Below w.heap.size w w2 := keepS hb2 hbw1
        go_wp2_with fail
        refine (c10 t _).mono ?_
        rintro e w3 ⟨rfl, hb3⟩
        have hbw3 : Below w.heap.size w w3 := keepS hb3 hbw2
        go_wp2_with fail
        have hX : VRow (w3.alloc (.cells #[.int .i64 2, .int .i64 0, .int .i64 0, .string s, .slice none 0 0, .int .i64 2, .int .i64 0, .int .i64 0, .string t, .slice none 0 0] 27)) (some ⟨w3.heap.size, 0, none⟩) [⟨2, 0, 0, s⟩, ⟨2, 0, 0, t⟩] := vrow_new w3 _ _ _ rfl rfl
        refine (c8E s t _ 2 _ (by omega) (by omega) hX).mono ?_
        rintro e w4 ⟨b, rfl, hbt, hb4⟩
        cases hbt
        go_wp2_with fail
        go_ret
        exact ret_mk (keepS' (hbw3.alloc hbw3.size _) (by have := hbw3.size; simp; omega) hb4)
    · go_enter Tryz.func3, Tryz.ntmps3
      go_wp2_with fail
      go_ret
      exact ret_mk (Below.refl _ _)
  · go_enter Tryz.func3, Tryz.ntmps3
    go_wp2_with fail
    go_ret
    exact ret_mk (Below.refl _ _)
end Go.Proofs.YtpahhejkpdkjmaaGreatDoor
