/- Values in memory, and every of the reference. -/
import Derived.Test.YtpahhejkpdkjmaaGreatDoorA0
set_option linter.unusedSimpArgs false
set_option linter.unusedVariables false
namespace Go.Proofs.YtpahhejkpdkjmaaGreatDoor
open Go.RowKit
attribute [local go_sem] run_store_float

/-- A value of the reference without rows. -/
structure V where
  k : Int
  n : Int
  d : Int
  t : ByteArray
structure VCell (w : World) (g j : Nat) (v : V) : Prop where
  c0 : w.cell? ⟨g, j * 5, none⟩ = some (.int .i64 v.k)
  c1 : w.cell? ⟨g, j * 5 + 1, none⟩ = some (.int .i64 v.n)
  c2 : w.cell? ⟨g, j * 5 + 2, none⟩ = some (.int .i64 v.d)
  c3 : w.cell? ⟨g, j * 5 + 3, none⟩ = some (.string v.t)
  c4 : w.cell? ⟨g, j * 5 + 4, none⟩ = some (.slice none 0 0)
/-- A slice at A reads as xs. -/
def VRow (w : World) (A : Option Addr) (xs : List V) : Prop := xs = [] ∨ ∃ g, A = some ⟨g, 0, none⟩ ∧ g < w.heap.size ∧ ∀ j v, xs[j]? = some v → VCell w g j v
theorem VCell.below {w w1 : World} {g j : Nat} {v : V} (h : VCell w g j v) (hb : Below w.heap.size w w1) (hg : g < w.heap.size) : VCell w1 g j v :=
  ⟨(hb.cell (p := ⟨g, _, none⟩) hg).trans h.c0, (hb.cell (p := ⟨g, _, none⟩) hg).trans h.c1, (hb.cell (p := ⟨g, _, none⟩) hg).trans h.c2, (hb.cell (p := ⟨g, _, none⟩) hg).trans h.c3, (hb.cell (p := ⟨g, _, none⟩) hg).trans h.c4⟩
theorem VRow.below {w w1 : World} {A : Option Addr} {xs : List V} (h : VRow w A xs) (hb : Below w.heap.size w w1) : VRow w1 A xs := by
  rcases h with h | ⟨g, rfl, hg, hc⟩
  · exact .inl h
  · exact .inr ⟨g, rfl, Nat.lt_of_lt_of_le hg hb.size, fun j v hj => (hc j v hj).below hb hg⟩

theorem enters144 (args : Array Value) (W : World) : (callFunc 144 args).run Tryz.prog W = .ok (.enter 144 args) W := by simp [go_sem]
theorem enters148 (args : Array Value) (W : World) : (callFunc 148 args).run Tryz.prog W = .ok (.enter 148 args) W := by simp [go_sem]
set_option maxRecDepth 100000 in
set_option maxHeartbeats 1000000 in
theorem c143 (f : Nat) (R : V → Bool → Prop) (xs : List V) (A : Option Addr) (c : Nat) (w : World) (hl : xs.length ≤ 1099511627776) (hx : VRow w A xs)
    (hcall : ∀ (args : Array Value) (W : World), (callFunc f args).run Tryz.prog W = .ok (.enter f args) W) (hf : ∀ v, v ∈ xs → ∀ w', Calls Tryz.prog f #[.agg #[.int .i64 v.k, .int .i64 v.n, .int .i64 v.d, .string v.t, .slice none 0 0]] w' (RetB w' (R v))) :
    Calls Tryz.prog 143 #[.slice A xs.length c, .func (.func f) #[] #[]] w (RetB w fun b => b = true → ∀ v, v ∈ xs → R v true) := by
  rcases hx with rfl | ⟨g, rfl, hg, hc⟩
  · go_enter Tryz.func143, Tryz.ntmps143
    go_wp2_with fail
    refine wp_loop_rounds 1 ?_
    rw [rounds_succ]
    go_wp2_with fail
    go_ret
    exact retB_mk _ (fun _ v h => (nomatch h)) (by repeat (first | (with_reducible exact Below.refl _ _) | (with_reducible assumption) | ((with_reducible refine Below.alloc ?_ ?_ _); rotate_left; focus (first | exact Nat.le_refl _ | omega | (simp; done) | (simp; omega))) | ((with_reducible refine Below.setCell ?_ ?_ _); rotate_left; focus (first | exact Nat.le_refl _ | omega | (simp; done) | (simp; omega))) | (with_reducible refine Below.drew ?_) | (with_reducible refine below_drewN ?_ _) | ((with_reducible refine below_via (by assumption) ?_ ?_); focus (first | exact Nat.le_refl _ | omega | (simp; done) | (simp; omega)))))
  · have HF := Lib.hid hf
    have HC := Lib.hid hc
    clear hf hc
    obtain ⟨n, hn⟩ : ∃ n, n = xs.length := ⟨_, rfl⟩
    rw [← hn] at hl ⊢
    have HN := Lib.hid hn
    clear hn
    go_enter Tryz.func143, Tryz.ntmps143
    go_wp2_with fail
    go_loopw [5] (fun i wr => ∃ k : Nat, k ≤ n ∧ i = .int .i64 k ∧ Below w.heap.size w wr ∧ ∀ j v, j < k → xs[j]? = some v → R v true) (fun i _ => n - (intOf i).toNat)
    case atStart => exact ⟨0, Nat.zero_le _, rfl, Below.refl _ _, fun j v h => absurd h (Nat.not_lt_zero _)⟩
    case round =>
      obtain ⟨k, hk, rfl, hb, ha⟩ := hrel
      have HA := Lib.hid ha
      clear ha
      have hwr := hb.size
      by_cases hlt : k < n
      · have hkx : k < xs.length := by rw [← HN.out]; exact hlt
        obtain ⟨v, hv⟩ : ∃ v, xs[k]? = some v := ⟨_, List.getElem?_eq_getElem hkx⟩
        have hvm : v ∈ xs := List.mem_of_getElem? hv
        obtain ⟨h0, h1, h2, h3, h4⟩ := (HC.out k v hv).below hb hg
        have HV := Lib.hid hv
        clear hv
        go_wp2_with fail
        refine (HF.out v hvm _).mono ?_
        rintro e w1 ⟨b, rfl, hr, hb1⟩
        clear h0 h1 h2 h3 h4
        have HR := Lib.hid hr
        clear hr
        cases b
        · go_wp2_with fail
          go_ret
          exact retB_mk _ (fun h => (nomatch h)) (by repeat (first | (with_reducible exact Below.refl _ _) | (with_reducible assumption) | ((with_reducible refine Below.alloc ?_ ?_ _); rotate_left; focus (first | exact Nat.le_refl _ | omega | (simp; done) | (simp; omega))) | ((with_reducible refine Below.setCell ?_ ?_ _); rotate_left; focus (first | exact Nat.le_refl _ | omega | (simp; done) | (simp; omega))) | (with_reducible refine Below.drew ?_) | (with_reducible refine below_drewN ?_ _) | ((with_reducible refine below_via (by assumption) ?_ ?_); focus (first | exact Nat.le_refl _ | omega | (simp; done) | (simp; omega)))))
        · go_wp2_with fail
          go_roundw
          case rel => exact ⟨k + 1, by omega, by go_num, (by repeat (first | (with_reducible exact Below.refl _ _) | (with_reducible assumption) | ((with_reducible refine Below.alloc ?_ ?_ _); rotate_left; focus (first | exact Nat.le_refl _ | omega | (simp; done) | (simp; omega))) | ((with_reducible refine Below.setCell ?_ ?_ _); rotate_left; focus (first | exact Nat.le_refl _ | omega | (simp; done) | (simp; omega))) | (with_reducible refine Below.drew ?_) | (with_reducible refine below_drewN ?_ _) | ((with_reducible refine below_via (by assumption) ?_ ?_); focus (first | exact Nat.le_refl _ | omega | (simp; done) | (simp; omega))))), fun j v' hj hv' => by
            rcases Nat.lt_or_ge j k with h | h
            · exact HA.out j v' h hv'
            · obtain rfl : j = k := by omega
              rw [HV.out] at hv'
              cases hv'
              exact HR.out⟩
          case measure => simp [intOf]; omega
      · go_wp2_with fail
        go_ret
        exact retB_mk _ (fun _ v h => by
          obtain ⟨j, hj⟩ := List.getElem?_of_mem h
          exact HA.out j v (by have := (List.getElem?_eq_some_iff.1 hj).1; rw [← HN.out] at this; omega) hj) hb
end Go.Proofs.YtpahhejkpdkjmaaGreatDoor
