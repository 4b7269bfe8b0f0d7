/- The law FnLenNumber. -/
import Derived.Test.YtpahhejkpdkjmaaGreatDoorLC
import Derived.Test.YtpahhejkpdkjmaaGreatDoorI3
import Derived.Test.YtpahhejkpdkjmaaGreatDoorI4
import Derived.Test.YtpahhejkpdkjmaaGreatDoorKL
import Derived.Test.YtpahhejkpdkjmaaGreatDoorDN
set_option linter.unusedSimpArgs false
set_option linter.unusedVariables false
namespace Go.Proofs.YtpahhejkpdkjmaaGreatDoor
open Go.RowKit
attribute [local go_sem] run_store_float
theorem enters12 (args : Array Value) (W : World) : (callFunc 12 args).run Tryz.prog W = .ok (.enter 12 args) W := by simp [go_sem]
set_option maxRecDepth 100000 in
set_option maxHeartbeats 1000000 in
theorem c13 (n : Int) (w : World) : Calls Tryz.prog 13 #[.int .i64 n] w (RetV w fun r => ∃ v : V, r = .agg #[.int .i64 v.k, .int .i64 v.n, .int .i64 v.d, .string v.t, .slice none 0 0] ∧ (v.k = 1 ∨ v.k = 6) ∧ v.t = ⟨#[]⟩) := by
  have HZ0 := Lib.hid (zcell_new w)
  have hbA : Below w.heap.size w (w.alloc (.cells #[.int .i64 0, .int .i64 0, .int .i64 0, .string ⟨#[]⟩, .slice none 0 0] 27)) := (by repeat (first | (with_reducible exact Below.refl _ _) | (with_reducible assumption) | ((with_reducible refine Below.alloc ?_ ?_ _); rotate_left; focus (first | exact Nat.le_refl _ | omega | (simp; done) | (simp; omega))) | ((with_reducible refine Below.setCell ?_ ?_ _); rotate_left; focus (first | exact Nat.le_refl _ | omega | (simp; done) | (simp; omega))) | (with_reducible refine Below.drew ?_) | (with_reducible refine below_drewN ?_ _) | ((with_reducible refine below_via (by assumption) ?_ ?_); focus (first | exact Nat.le_refl _ | omega | (simp; done) | (simp; omega)))))
  have hm0 : -1125899906842624 ≤ max (min n 35184372088832) (-35184372088832) := by omega
  have hm1 : max (min n 35184372088832) (-35184372088832) ≤ 1125899906842624 := by omega
  have HM := Lib.hid (And.intro hm0 hm1)
  clear hm0 hm1
  go_enter Tryz.func13, Tryz.ntmps13
  go_wp2_with fail
  refine (c27 (max (min n 35184372088832) (-35184372088832)) 16 _ (by decide) (by decide) HM.out.1 HM.out.2).mono ?_
  rintro e w1 ⟨_, rfl, hv, hb1⟩
  obtain ⟨hsz, q0, q1, q2, q3, q4, r0, r1, r2, r3, r4⟩ := HZ0.out.below hb1
  have hbw1 : Below w.heap.size w w1 := keepS' hbA (by simp) hb1
  clear hb1 HZ0 HM
  rcases hv with rfl | ⟨n', d', rfl, _⟩
  · go_wp2_with fail
    (refine bodyPost_ret (v := .agg #[.int .i64 6, .int .i64 0, .int .i64 0, .string ⟨#[]⟩, .slice none 0 0]) ?_ rfl ?_; (focus (first | (simp [results, Tryz.results13, go_sem, hc1, hz1]; done) | (simp [results, Tryz.results13, go_sem]; done) | (simp [results, Tryz.results13, go_sem, *]; done))); exact retV_mk _ ⟨VD, rfl, .inr rfl, rfl⟩ (by repeat (first | (with_reducible exact Below.refl _ _) | (with_reducible assumption) | ((with_reducible refine Below.alloc ?_ ?_ _); rotate_left; focus (first | exact Nat.le_refl _ | omega | (simp; done) | (simp; omega))) | ((with_reducible refine Below.setCell ?_ ?_ _); rotate_left; focus (first | exact Nat.le_refl _ | omega | (simp; done) | (simp; omega))) | (with_reducible refine Below.drew ?_) | (with_reducible refine below_drewN ?_ _) | ((with_reducible refine below_via (by assumption) ?_ ?_); focus (first | exact Nat.le_refl _ | omega | (simp; done) | (simp; omega))))))
  · go_wp2_with fail
    (refine bodyPost_ret (v := .agg #[.int .i64 1, .int .i64 n', .int .i64 d', .string ⟨#[]⟩, .slice none 0 0]) ?_ rfl ?_; (focus (first | (simp [results, Tryz.results13, go_sem, hc1, hz1]; done) | (simp [results, Tryz.results13, go_sem]; done) | (simp [results, Tryz.results13, go_sem, *]; done))); exact retV_mk _ ⟨⟨1, n', d', ⟨#[]⟩⟩, rfl, .inl rfl, rfl⟩ (by repeat (first | (with_reducible exact Below.refl _ _) | (with_reducible assumption) | ((with_reducible refine Below.alloc ?_ ?_ _); rotate_left; focus (first | exact Nat.le_refl _ | omega | (simp; done) | (simp; omega))) | ((with_reducible refine Below.setCell ?_ ?_ _); rotate_left; focus (first | exact Nat.le_refl _ | omega | (simp; done) | (simp; omega))) | (with_reducible refine Below.drew ?_) | (with_reducible refine below_drewN ?_ _) | ((with_reducible refine below_via (by assumption) ?_ ?_); focus (first | exact Nat.le_refl _ | omega | (simp; done) | (simp; omega))))))
set_option maxRecDepth 100000 in
set_option maxHeartbeats 1000000 in
theorem c8L (v : V) (A : Option Addr) (c : Nat) (w : World) (hT : Tabs w) (hk : v.k = 1 ∨ v.k = 6) (ht : v.t = ⟨#[]⟩) (hx : VRow w A [v]) :
    Calls Tryz.prog 8 #[.func (.func 12) #[] #[], .string ⟨#[76, 69, 78]⟩, .slice A 1 c] w (RetB w fun b => b = true) := by
  have hk5 : ∀ u, u ∈ [v] → u.k ≠ 5 := by
    intro u hu
    simp only [List.mem_cons, List.not_mem_nil, or_false] at hu
    subst hu
    omega
  by_cases hw : WS v
  · obtain ⟨h1, h2, _, h4, h5⟩ := hw
    obtain ⟨vk, vn, vd, vt⟩ := v
    dsimp only at h1 h2 h4 h5 ht
    subst h1 h2 ht
    have hk6 : vn.natAbs < 1000000 := by omega
    have hlen : (plainS vn).size = lenN vn := plainS_size vn
    have hn7 := lenN_le vn hk6
    refine c8T 12 ⟨#[76, 69, 78]⟩ [⟨1, vn, 1, ⟨#[]⟩⟩] A c w (fun v => ⟨1, floatOfInt FloatKind.f64 v.n, ⟨#[]⟩⟩) (LenR (lenN vn)) (fun i => i = ⟨1, lenB vn, ⟨#[]⟩⟩) (by simp) (by simp) hx hk5 enters12 (fun W hW => ?_) ?_ ?_ ?_ ?_
    · exact (c17L ⟨1, vn, 1, ⟨#[]⟩⟩ A c W hk rfl (hx.below hW)).mono fun e w' ⟨r, he, ⟨u, hr, hu⟩, hb⟩ => ⟨r, he, ⟨u, hr, hu.elim .inl fun h => by have := h.2; rw [hlen] at this; exact this⟩, hb⟩
    · rintro u (rfl | rfl)
      · decide
      · show (1 : Int) ≠ 5
        decide
    · intro v hv w'
      simp only [List.mem_cons, List.not_mem_nil, or_false] at hv
      subst hv
      exact c31_1 vn ⟨#[]⟩ w' (by omega)
    · intro W A' c' hW hI
      exact (c12 vn A' c' W hk6 (hT.below hW hT.pow.1) hI).mono fun e w' ⟨he, hb⟩ => ⟨_, he, ⟨⟨1, lenB vn, ⟨#[]⟩⟩, rfl, rfl⟩, hb⟩
    · rintro u i (rfl | rfl) h6 rfl
      · exact absurd rfl h6
      · exact ⟨fun w' => c31_1 ((lenN vn : Nat) : Int) ⟨#[]⟩ w' (by omega), (lenB_ok vn hk6).1⟩
  · refine c8D (.func (.func 12) #[] #[]) ⟨#[76, 69, 78]⟩ [v] A c w (fun u => u = VD) (by simp) hx hk5 (fun W hW => ?_) (fun u h => by rw [h]; rfl)
    exact (c17L v A c W hk ht (hx.below hW)).mono fun e w' ⟨r, he, ⟨u, hr, hu⟩, hb⟩ => ⟨r, he, ⟨u, hr, hu.elim id fun h => absurd h.1 hw⟩, hb⟩
set_option maxRecDepth 100000 in
set_option maxHeartbeats 2000000 in
theorem c5 (n : Int) (w : World) (hT : Tabs w) : Calls Tryz.prog 5 #[.int .i64 n] w (Ret w (.bool true)) := by
  have HT := Lib.hid hT
  clear hT
  go_enter Tryz.func5, Tryz.ntmps5
  go_wp2_with fail
  refine (c13 n _).mono ?_
  rintro e w1 ⟨_, rfl, ⟨v, rfl, hk, ht⟩, hb1⟩
  go_wp2_with fail
  have hbw1 : Below w.heap.size w w1 := hb1
  have h4 : 4 < w.heap.size := HT.out.pow.1
  have hbA : Below w.heap.size w (w1.alloc (.cells #[.int .i64 v.k, .int .i64 v.n, .int .i64 v.d, .string ⟨#[]⟩, .slice none 0 0] 27)) := hbw1.alloc hbw1.size _
  obtain ⟨vk, vn, vd, vt⟩ := v
  dsimp only at hk ht hbA ⊢
  subst ht
  have hX : VRow (w1.alloc (.cells #[.int .i64 vk, .int .i64 vn, .int .i64 vd, .string ⟨#[]⟩, .slice none 0 0] 27)) (some ⟨w1.heap.size, 0, none⟩) [⟨vk, vn, vd, ⟨#[]⟩⟩] := vrow_new w1 _ _ _ rfl rfl
  refine (c8L ⟨vk, vn, vd, ⟨#[]⟩⟩ _ 1 _ (HT.out.below hbA h4) hk rfl hX).mono ?_
  rintro e w4 ⟨b, rfl, hbt, hb4⟩
  cases hbt
  go_wp2_with fail
  go_ret
  exact ret_mk (keepS' hbA (by have := hbw1.size; simp; omega) hb4)
end Go.Proofs.YtpahhejkpdkjmaaGreatDoor
