/- The law FnConcatenate. -/
import Derived.Test.YtpahhejkpdkjmaaGreatDoorL1
import Derived.Test.YtpahhejkpdkjmaaGreatDoorI3
import Derived.Test.YtpahhejkpdkjmaaGreatDoorKJ
import Derived.Test.YtpahhejkpdkjmaaGreatDoorEJ
set_option linter.unusedSimpArgs false
set_option linter.unusedVariables false
namespace Go.Proofs.YtpahhejkpdkjmaaGreatDoor
open Go.RowKit
attribute [local go_sem] run_store_float
theorem order00 : FloatKind.f64.format.order 0 0 = some Ordering.eq := by decide
theorem enters15 (args : Array Value) (W : World) : (callFunc 15 args).run Tryz.prog W = .ok (.enter 15 args) W := by simp [go_sem]
set_option maxRecDepth 100000 in
set_option maxHeartbeats 1000000 in
theorem c8J (ss : List ByteArray) (A : Option Addr) (c : Nat) (w : World) (hl : ss.length ≤ 20) (hs : ∀ s, s ∈ ss → s.size ≤ 1000) (hx : VRow w A (ss.map vS)) :
    Calls Tryz.prog 8 #[.func (.func 15) #[] #[], .string ⟨#[67, 79, 78, 67, 65, 84, 69, 78, 65, 84, 69]⟩, .slice A ss.length c] w (RetB w fun b => b = true) := by
  have hk : ∀ v, v ∈ ss.map vS → v.k ≠ 5 := by
    intro v hv
    obtain ⟨s, _, rfl⟩ := List.mem_map.1 hv
    show (2 : Int) ≠ 5
    decide
  by_cases h0 : 0 < ss.length
  · have h := c8 15 ⟨#[67, 79, 78, 67, 65, 84, 69, 78, 65, 84, 69]⟩ (ss.map vS) A c w (fun v => ⟨2, 0, v.t⟩) (fun u => u = VD ∨ u = ⟨2, 0, 0, cat ss⟩) (fun i => i = ⟨2, 0, cat ss⟩) (by rw [List.length_map]; omega) (by rw [List.length_map]; exact h0) hx hk enters15 ?_ ?_ ?_ ?_ ?_
    · rw [List.length_map] at h
      exact h
    · intro W hW
      rw [List.length_map]
      exact (c17J ss A c W hl (hx.below hW) hs).mono fun e w' ⟨r, he, ⟨u, hr, hu⟩, hb⟩ => ⟨r, he, ⟨u, hr, hu.elim .inl fun h => h.2⟩, hb⟩
    · rintro u (rfl | rfl)
      · decide
      · show (2 : Int) ≠ 5
        decide
    · intro v hv w'
      obtain ⟨s, _, rfl⟩ := List.mem_map.1 hv
      exact c31_2 0 0 s w'
    · intro W A' c' hI
      rw [List.map_map] at hI
      rw [List.length_map]
      exact (c15 ss A' c' W hI h0 hl hs).mono fun e w' ⟨he, hb⟩ => ⟨_, he, ⟨⟨2, 0, cat ss⟩, rfl, rfl⟩, hb⟩
    · rintro u i (rfl | rfl) h6 rfl
      · exact absurd rfl h6
      · exact ⟨fun w' => c31_2 0 0 (cat ss) w', order00⟩
  · have h := c8D (.func (.func 15) #[] #[]) ⟨#[67, 79, 78, 67, 65, 84, 69, 78, 65, 84, 69]⟩ (ss.map vS) A c w (fun u => u = VD) (by rw [List.length_map]; omega) hx hk ?_ ?_
    · rw [List.length_map] at h
      exact h
    · intro W hW
      rw [List.length_map]
      exact (c17J ss A c W hl (hx.below hW) hs).mono fun e w' ⟨r, he, ⟨u, hr, hu⟩, hb⟩ => ⟨r, he, ⟨u, hr, hu.elim id fun h => absurd h.1 h0⟩, hb⟩
    · rintro u rfl
      rfl
/-- A slice at A (wherever in its block it begins) reads as the texts ss. -/
def TRow (w : World) (A : Option Addr) (ss : List ByteArray) : Prop := ss = [] ∨ ∃ g o, A = some ⟨g, o, none⟩ ∧ g < w.heap.size ∧ ∀ j s, ss[j]? = some s → w.cell? ⟨g, o + j, none⟩ = some (.string s)
theorem TRow.below {w w1 : World} {A : Option Addr} {ss : List ByteArray} (h : TRow w A ss) (hb : Below w.heap.size w w1) : TRow w1 A ss := by
  rcases h with h | ⟨g, o, rfl, hg, hc⟩
  · exact .inl h
  · exact .inr ⟨g, o, rfl, Nat.lt_of_lt_of_le hg hb.size, fun j s hj => (hb.cell (p := ⟨g, _, none⟩) hg).trans (hc j s hj)⟩
set_option maxRecDepth 100000 in
set_option maxHeartbeats 1000000 in
theorem c7o (xs : List ByteArray) (A : Option Addr) (c : Nat) (w : World) (hl : xs.length ≤ 1099511627776) (hx : TRow w A xs) :
    Calls Tryz.prog 7 #[.slice A xs.length c] w (RetB w fun b => b = true → ∀ s, s ∈ xs → s.size ≤ 1000) := by
  obtain ⟨n, hn⟩ : ∃ n, n = xs.length := ⟨_, rfl⟩
  rcases hx with hnil | ⟨g, o, rfl, hg, hc⟩
  · subst hnil
    go_enter Tryz.func7, Tryz.ntmps7
    go_wp2_with fail
    refine wp_loop_rounds 1 ?_
    rw [rounds_succ]
    go_wp2_with fail
    go_ret
    exact retB_mk _ (fun _ v h => (nomatch h)) (by repeat (first | (with_reducible exact Below.refl _ _) | (with_reducible assumption) | ((with_reducible refine Below.alloc ?_ ?_ _); rotate_left; focus (first | exact Nat.le_refl _ | omega | (simp; done) | (simp; omega))) | ((with_reducible refine Below.setCell ?_ ?_ _); rotate_left; focus (first | exact Nat.le_refl _ | omega | (simp; done) | (simp; omega))) | (with_reducible refine Below.drew ?_) | (with_reducible refine below_drewN ?_ _) | ((with_reducible refine below_via (by assumption) ?_ ?_); focus (first | exact Nat.le_refl _ | omega | (simp; done) | (simp; omega)))))
  · have HC := Lib.hid hc
    rw [← hn] at hl ⊢
    have HN := Lib.hid hn
    clear hn hc
    go_enter Tryz.func7, Tryz.ntmps7
    go_wp2_with fail
    go_loopw [3] (fun i wr => wr = w ∧ ∃ k : Nat, k ≤ n ∧ i = .int .i64 k ∧ ∀ j s, j < k → xs[j]? = some s → s.size ≤ 1000) (fun i _ => n - (intOf i).toNat)
    case atStart => exact ⟨rfl, 0, Nat.zero_le _, rfl, fun j v h => absurd h (Nat.not_lt_zero _)⟩
    case round =>
      obtain ⟨rfl, k, hk, rfl, ha⟩ := hrel
      have HA := Lib.hid ha
      clear ha
      by_cases hlt : k < n
      · have hkx : k < xs.length := by rw [← HN.out]; exact hlt
        obtain ⟨v, hv⟩ : ∃ v, xs[k]? = some v := ⟨_, List.getElem?_eq_getElem hkx⟩
        have h0 := HC.out k v hv
        have HV := Lib.hid hv
        clear hv
        by_cases hsz : v.size ≤ 1000
        · go_wp2_with fail
          go_roundw
          case rel => exact ⟨by first | rfl | trivial, k + 1, by omega, by go_num, fun j v' hj hv' => by
            rcases Nat.lt_or_ge j k with h | h
            · exact HA.out j v' h hv'
            · obtain rfl : j = k := by omega
              rw [HV.out] at hv'
              cases hv'
              exact hsz⟩
          case measure => simp [intOf]; omega
        · go_wp2_with fail
          go_ret
          exact retB_mk _ (fun h => (nomatch h)) (by repeat (first | (with_reducible exact Below.refl _ _) | (with_reducible assumption) | ((with_reducible refine Below.alloc ?_ ?_ _); rotate_left; focus (first | exact Nat.le_refl _ | omega | (simp; done) | (simp; omega))) | ((with_reducible refine Below.setCell ?_ ?_ _); rotate_left; focus (first | exact Nat.le_refl _ | omega | (simp; done) | (simp; omega))) | (with_reducible refine Below.drew ?_) | (with_reducible refine below_drewN ?_ _) | ((with_reducible refine below_via (by assumption) ?_ ?_); focus (first | exact Nat.le_refl _ | omega | (simp; done) | (simp; omega)))))
      · go_wp2_with fail
        go_ret
        exact retB_mk _ (fun _ v h => by
          obtain ⟨j, hj⟩ := List.getElem?_of_mem h
          exact HA.out j v (by have := (List.getElem?_eq_some_iff.1 hj).1; rw [← HN.out] at this; omega) hj) (by repeat (first | (with_reducible exact Below.refl _ _) | (with_reducible assumption) | ((with_reducible refine Below.alloc ?_ ?_ _); rotate_left; focus (first | exact Nat.le_refl _ | omega | (simp; done) | (simp; omega))) | ((with_reducible refine Below.setCell ?_ ?_ _); rotate_left; focus (first | exact Nat.le_refl _ | omega | (simp; done) | (simp; omega))) | (with_reducible refine Below.drew ?_) | (with_reducible refine below_drewN ?_ _) | ((with_reducible refine below_via (by assumption) ?_ ?_); focus (first | exact Nat.le_refl _ | omega | (simp; done) | (simp; omega)))))
set_option maxRecDepth 100000 in
set_option maxHeartbeats 1000000 in
theorem c14 (xs : List ByteArray) (A : Option Addr) (c : Nat) (w : World) (hl : xs.length ≤ 9223372036854775807) (hx : TRow w A xs) :
    Calls Tryz.prog 14 #[.slice A xs.length c] w (RetB w fun b => True) := by
  obtain ⟨n, hn⟩ : ∃ n, n = xs.length := ⟨_, rfl⟩
  rcases hx with hnil | ⟨g, o, rfl, hg, hc⟩
  · subst hnil
    go_enter Tryz.func14, Tryz.ntmps14
    go_wp2_with fail
    refine wp_loop_rounds 1 ?_
    rw [rounds_succ]
    go_wp2_with fail
    go_ret
    exact retB_mk _ trivial (by repeat (first | (with_reducible exact Below.refl _ _) | (with_reducible assumption) | ((with_reducible refine Below.alloc ?_ ?_ _); rotate_left; focus (first | exact Nat.le_refl _ | omega | (simp; done) | (simp; omega))) | ((with_reducible refine Below.setCell ?_ ?_ _); rotate_left; focus (first | exact Nat.le_refl _ | omega | (simp; done) | (simp; omega))) | (with_reducible refine Below.drew ?_) | (with_reducible refine below_drewN ?_ _) | ((with_reducible refine below_via (by assumption) ?_ ?_); focus (first | exact Nat.le_refl _ | omega | (simp; done) | (simp; omega)))))
  · have HC := Lib.hid hc
    rw [← hn] at hl ⊢
    have HN := Lib.hid hn
    clear hn hc
    by_cases hbig : n ≤ 2147483647
    · go_enter Tryz.func14, Tryz.ntmps14
      go_wp2_with fail
      go_loopw [10] (fun i wr => wr = w ∧ ∃ k : Nat, k ≤ n ∧ i = .int .i64 k) (fun i _ => n - (intOf i).toNat)
      case atStart => exact ⟨rfl, 0, Nat.zero_le _, rfl⟩
      case round =>
        obtain ⟨rfl, k, hk, rfl⟩ := hrel
        by_cases hlt : k < n
        · have hkx : k < xs.length := by rw [← HN.out]; exact hlt
          obtain ⟨v, hv⟩ : ∃ v, xs[k]? = some v := ⟨_, List.getElem?_eq_getElem hkx⟩
          have h0 := HC.out k v hv
          clear hv
          by_cases hsz : v.size ≤ 2147483647
          · go_wp2_with fail
            go_roundw
            case rel => exact ⟨by first | rfl | trivial, k + 1, by omega, by go_num⟩
            case measure => simp [intOf]; omega
          · go_wp2_with fail
            go_ret
            exact retB_mk _ trivial (by repeat (first | (with_reducible exact Below.refl _ _) | (with_reducible assumption) | ((with_reducible refine Below.alloc ?_ ?_ _); rotate_left; focus (first | exact Nat.le_refl _ | omega | (simp; done) | (simp; omega))) | ((with_reducible refine Below.setCell ?_ ?_ _); rotate_left; focus (first | exact Nat.le_refl _ | omega | (simp; done) | (simp; omega))) | (with_reducible refine Below.drew ?_) | (with_reducible refine below_drewN ?_ _) | ((with_reducible refine below_via (by assumption) ?_ ?_); focus (first | exact Nat.le_refl _ | omega | (simp; done) | (simp; omega)))))
        · go_wp2_with fail
          go_ret
          exact retB_mk _ trivial (by repeat (first | (with_reducible exact Below.refl _ _) | (with_reducible assumption) | ((with_reducible refine Below.alloc ?_ ?_ _); rotate_left; focus (first | exact Nat.le_refl _ | omega | (simp; done) | (simp; omega))) | ((with_reducible refine Below.setCell ?_ ?_ _); rotate_left; focus (first | exact Nat.le_refl _ | omega | (simp; done) | (simp; omega))) | (with_reducible refine Below.drew ?_) | (with_reducible refine below_drewN ?_ _) | ((with_reducible refine below_via (by assumption) ?_ ?_); focus (first | exact Nat.le_refl _ | omega | (simp; done) | (simp; omega)))))
    · go_enter Tryz.func14, Tryz.ntmps14
      go_wp2_with fail
      go_ret
      exact retB_mk _ trivial (by repeat (first | (with_reducible exact Below.refl _ _) | (with_reducible assumption) | ((with_reducible refine Below.alloc ?_ ?_ _); rotate_left; focus (first | exact Nat.le_refl _ | omega | (simp; done) | (simp; omega))) | ((with_reducible refine Below.setCell ?_ ?_ _); rotate_left; focus (first | exact Nat.le_refl _ | omega | (simp; done) | (simp; omega))) | (with_reducible refine Below.drew ?_) | (with_reducible refine below_drewN ?_ _) | ((with_reducible refine below_via (by assumption) ?_ ?_); focus (first | exact Nat.le_refl _ | omega | (simp; done) | (simp; omega)))))
set_option maxRecDepth 100000 in
set_option maxHeartbeats 1000000 in
theorem c16 (ss : List ByteArray) (A : Option Addr) (c : Nat) (w : World) (hl : ss.length ≤ 20) (hx : TRow w A ss) :
    Calls Tryz.prog 16 #[.slice A ss.length c] w (fun e w' => ∃ A' c', e = .returned (.slice A' ss.length c') ∧ VRow w' A' (ss.map vS) ∧ Below w.heap.size w w') := by
  rcases hx with hnil | ⟨g, o, rfl, hg, hc⟩
  · subst hnil
    go_enter Tryz.func16, Tryz.ntmps16
    go_wp2_with fail
    refine wp_loop_rounds 1 ?_
    rw [rounds_succ]
    go_wp2_with fail
    go_ret
    exact ⟨none, 0, rfl, .inl rfl, (by repeat (first | (with_reducible exact Below.refl _ _) | (with_reducible assumption) | ((with_reducible refine Below.alloc ?_ ?_ _); rotate_left; focus (first | exact Nat.le_refl _ | omega | (simp; done) | (simp; omega))) | ((with_reducible refine Below.setCell ?_ ?_ _); rotate_left; focus (first | exact Nat.le_refl _ | omega | (simp; done) | (simp; omega))) | (with_reducible refine Below.drew ?_) | (with_reducible refine below_drewN ?_ _) | ((with_reducible refine below_via (by assumption) ?_ ?_); focus (first | exact Nat.le_refl _ | omega | (simp; done) | (simp; omega)))))⟩
  · have HC := Lib.hid hc
    clear hc
    obtain ⟨n, hn⟩ : ∃ n, n = ss.length := ⟨_, rfl⟩
    rw [← hn] at hl ⊢
    have HN := Lib.hid hn
    clear hn
    go_enter Tryz.func16, Tryz.ntmps16
    go_wp2_with fail
    go_loopw [3, 4] (fun v i wr => ∃ k : Nat, k ≤ n ∧ i = .int .i64 k ∧ Below w.heap.size w wr ∧ Own w wr 27 5 v (((ss.take k).map vS).map V.cells)) (fun _ i _ => n - (intOf i).toNat)
    case atStart => exact ⟨0, Nat.zero_le _, rfl, Below.refl _ _, own_nil _ _ _ _⟩
    case round =>
      obtain ⟨k, hk, rfl, hb, ho⟩ := hrel
      have HO := Lib.hid ho
      clear ho
      have hwr := hb.size
      by_cases hlt : k < n
      · have hkx : k < ss.length := by rw [← HN.out]; exact hlt
        obtain ⟨s, hv⟩ : ∃ s, ss[k]? = some s := ⟨_, List.getElem?_eq_getElem hkx⟩
        have h0 := (hb.cell (p := ⟨g, o + k, none⟩) hg).trans (HC.out k s hv)
        have HV := Lib.hid hv
        clear hv
        go_wp2_with (first
          | (go_at_call 10; refine (c10 s _).mono ?_; rintro e w1 ⟨rfl, hb1⟩)
          | (at_builtin; refine app27 _ ((ss.take k).map vS) (vS s) _ _ rfl rfl rfl rfl (HO.out.below hb1) (keepS hb1 hb) (by rw [List.length_map, List.length_take]; omega) ?_; intro v1 w2 ho2 hb2))
        go_roundw
        case rel => exact ⟨k + 1, by omega, by go_num, hb2, by rw [take_succ_of HV.out, List.map_append]; exact ho2⟩
        case measure => simp [intOf]; omega
      · have hk' : k = ss.length := by rw [← HN.out]; omega
        go_wp2_with fail
        go_ret
        have := HO.out
        rw [hk', List.take_length] at this
        obtain ⟨A', c', he, hr⟩ := this.row
        rw [List.length_map, List.length_map, ← HN.out] at he
        exact ⟨A', c', by rw [he]; rfl, hr.vrow, hb⟩
set_option maxRecDepth 100000 in
set_option maxHeartbeats 1000000 in
theorem c6 (ss : List ByteArray) (A : Option Addr) (c : Nat) (w : World) (hl : ss.length ≤ 9223372036854775807) (hx : TRow w A ss) :
    Calls Tryz.prog 6 #[.slice A ss.length c] w (Ret w (.bool true)) := by
  have H14 := Lib.hid (c14 ss A c w hl hx)
  by_cases h20 : ss.length ≤ 20
  · have H7 := Lib.hid (fun W (hW : Below w.heap.size w W) => c7o ss A c W (by omega) (hx.below hW))
    have H16 := Lib.hid (fun W (hW : Below w.heap.size w W) => c16 ss A c W h20 (hx.below hW))
    have H8 := Lib.hid (fun (A' : Option Addr) (c' : Nat) W (hW : VRow W A' (ss.map vS)) (hs : ∀ s, s ∈ ss → s.size ≤ 1000) => c8J ss A' c' W h20 hs hW)
    obtain ⟨n, hn⟩ : ∃ n, n = ss.length := ⟨_, rfl⟩
    rw [← hn] at H14 H7 H16 H8 hl h20 ⊢
    clear hn hx
    go_enter Tryz.func6, Tryz.ntmps6
    go_wp2_with fail
    refine H14.out.mono ?_
    rintro e w1 ⟨b, rfl, _, hb1⟩
    cases b
    · go_wp2_with fail
      go_ret
      exact ret_mk hb1
    go_wp2_with fail
    refine (H7.out w1 hb1).mono ?_
    rintro e w2 ⟨b, rfl, hr, hb2⟩
    have hbw2 : Below w.heap.size w w2 := keepS hb2 hb1
    cases b
    · clear hr
      go_wp2_with fail
      go_ret
      exact ret_mk hbw2
    have HR := Lib.hid (hr rfl)
    clear hr
    go_wp2_with fail
    refine (H16.out w2 hbw2).mono ?_
    rintro e w3 ⟨A', c', rfl, hv, hb3⟩
    have hbw3 : Below w.heap.size w w3 := keepS hb3 hbw2
    have HV := Lib.hid hv
    clear hv
    go_wp2_with fail
    refine (H8.out A' c' w3 HV.out HR.out).mono ?_
    rintro e w4 ⟨b, rfl, hbt, hb4⟩
    cases hbt
    go_wp2_with fail
    go_ret
    exact ret_mk (keepS hb4 hbw3)
  · clear hx
    obtain ⟨n, hn⟩ : ∃ n, n = ss.length := ⟨_, rfl⟩
    rw [← hn] at H14 hl h20 ⊢
    clear hn
    go_enter Tryz.func6, Tryz.ntmps6
    go_wp2_with fail
    refine H14.out.mono ?_
    rintro e w1 ⟨b, rfl, _, hb1⟩
    cases b
    · go_wp2_with fail
      go_ret
      exact ret_mk hb1
    go_wp2_with fail
    go_ret
    exact ret_mk hb1
end Go.Proofs.YtpahhejkpdkjmaaGreatDoor
