/- The law FnCode. -/
import Derived.Test.YtpahhejkpdkjmaaGreatDoorL1
import Derived.Test.YtpahhejkpdkjmaaGreatDoorJC
import Derived.Test.YtpahhejkpdkjmaaGreatDoorDC
set_option linter.unusedSimpArgs false
set_option linter.unusedVariables false
namespace Go.Proofs.YtpahhejkpdkjmaaGreatDoor
open Go.RowKit
attribute [local go_sem] run_store_float
theorem enters11 (args : Array Value) (W : World) : (callFunc 11 args).run Tryz.prog W = .ok (.enter 11 args) W := by simp [go_sem]
set_option maxRecDepth 100000 in
set_option maxHeartbeats 1000000 in
theorem c31_1 (n : Int) (t : ByteArray) (w : World) (h : n.natAbs < 35184372088832) : Calls Tryz.prog 31 #[.agg #[.int .i64 1, .int .i64 n, .int .i64 1, .string t, .slice none 0 0]] w (Ret w (.agg #[.int .i64 1, .float .f64 (floatOfInt FloatKind.f64 n), .string t, .slice none 0 0])) := by
  have hq : ∀ W, (binOp BinOp.quo 41 (.float FloatKind.f64 (floatOfInt FloatKind.f64 n)) (.float FloatKind.f64 (floatOfInt FloatKind.f64 1))).run Tryz.prog W = .ok (.float FloatKind.f64 (floatOfInt FloatKind.f64 n)) W := fun W => run_float_arith W _ _ _ _ _ _ (foi_div1 n h)
  go_enter Tryz.func31, Tryz.ntmps31
  go_wp2_with fail
  exact bodyPost_ret (v := .agg #[.int .i64 1, .float .f64 (floatOfInt FloatKind.f64 n), .string t, .slice none 0 0]) (by first | (simp [results, Tryz.results31, go_sem, hc1, hz1]; done) | (simp [results, Tryz.results31, go_sem]; done) | (simp [results, Tryz.results31, go_sem, *]; done)) rfl (ret_mk (by repeat (first | (with_reducible exact Below.refl _ _) | (with_reducible assumption) | ((with_reducible refine Below.alloc ?_ ?_ _); rotate_left; focus (first | exact Nat.le_refl _ | omega | (simp; done) | (simp; omega))) | ((with_reducible refine Below.setCell ?_ ?_ _); rotate_left; focus (first | exact Nat.le_refl _ | omega | (simp; done) | (simp; omega))) | (with_reducible refine Below.drew ?_) | (with_reducible refine below_drewN ?_ _) | ((with_reducible refine below_via (by assumption) ?_ ?_); focus (first | exact Nat.le_refl _ | omega | (simp; done) | (simp; omega))))))
set_option maxRecDepth 100000 in
set_option maxHeartbeats 1000000 in
theorem c8C (s : ByteArray) (A : Option Addr) (c : Nat) (w : World) (hs : s.size ≤ 9223372036854775807) (hx : VRow w A [⟨2, 0, 0, s⟩]) :
    Calls Tryz.prog 8 #[.func (.func 11) #[] #[], .string ⟨#[67, 79, 68, 69]⟩, .slice A 1 c] w (RetB w fun b => b = true) := by
  refine c8 11 ⟨#[67, 79, 68, 69]⟩ [⟨2, 0, 0, s⟩] A c w (fun v => ⟨2, 0, v.t⟩) (CodeR s) (fun i => i = ⟨1, codeB s, ⟨#[]⟩⟩) (by simp) (by simp) hx ?_ enters11 (fun W hW => c17C s A c W hs (hx.below hW)) ?_ ?_ ?_ ?_
  · intro v hv
    simp only [List.mem_cons, List.not_mem_nil, or_false] at hv
    subst hv
    show (2 : Int) ≠ 5
    decide
  · rintro u (rfl | ⟨h, rfl⟩)
    · decide
    · show (1 : Int) ≠ 5
      decide
  · intro v hv w'
    simp only [List.mem_cons, List.not_mem_nil, or_false] at hv
    subst hv
    exact c31_2 0 0 s w'
  · intro W A' c' hI
    exact (c11 s A' c' W hI).mono fun e w' ⟨he, hb⟩ => ⟨_, he, ⟨⟨1, codeB s, ⟨#[]⟩⟩, rfl, rfl⟩, hb⟩
  · rintro u i (rfl | ⟨h, rfl⟩) h6 rfl
    · exact absurd rfl h6
    · have hb : codeB s = floatOfInt FloatKind.f64 (s[0].toNat : Int) := by unfold codeB; rw [dif_pos h]
      have hn1 : (s[0].toNat : Int).natAbs < 35184372088832 := by have := s[0].toNat_lt; omega
      have hn2 : (s[0].toNat : Int).natAbs < 562949953421312 := by have := s[0].toNat_lt; omega
      rw [hb]
      exact ⟨fun w' => c31_1 (s[0].toNat : Int) _ w' hn1, foi_order (s[0].toNat : Int) hn2⟩
set_option maxRecDepth 100000 in
set_option maxHeartbeats 2000000 in
theorem c4 (s : ByteArray) (w : World) : Calls Tryz.prog 4 #[.string s] w (Ret w (.bool true)) := by
  by_cases h1 : s.size ≤ 2147483647
  · go_enter Tryz.func4, Tryz.ntmps4
    go_wp2_with fail
    have hrow : CRow (w.alloc (.cells #[.string s] 9)) (some ⟨w.heap.size, 0, none⟩) 1 ([s].map tcell) := crow_new w _ _ 1 _ _ rfl rfl (by intro c hc; simp at hc; rcases hc with rfl; rfl)
    refine (c7 [s] _ _ _ (by simp) hrow).mono ?_
    rintro e w1 ⟨b, rfl, hr, hb1⟩
    have hbw1 : Below w.heap.size w w1 := (by repeat (first | (with_reducible exact Below.refl _ _) | (with_reducible assumption) | ((with_reducible refine Below.alloc ?_ ?_ _); rotate_left; focus (first | exact Nat.le_refl _ | omega | (simp; done) | (simp; omega))) | ((with_reducible refine Below.setCell ?_ ?_ _); rotate_left; focus (first | exact Nat.le_refl _ | omega | (simp; done) | (simp; omega))) | (with_reducible refine Below.drew ?_) | (with_reducible refine below_drewN ?_ _) | ((with_reducible refine below_via (by assumption) ?_ ?_); focus (first | exact Nat.le_refl _ | omega | (simp; done) | (simp; omega)))))
    clear hb1 hrow
    cases b
    · clear hr
      go_wp2_with fail
      go_ret
      exact ret_mk hbw1
    · clear hr
      go_wp2_with fail
      refine (c10 s _).mono ?_
      rintro e w2 ⟨rfl, hb2⟩
      have hbw3 : Below w.heap.size w w2 := keepS hb2 hbw1
      go_wp2_with fail
      have hX : VRow (w2.alloc (.cells #[.int .i64 2, .int .i64 0, .int .i64 0, .string s, .slice none 0 0] 27)) (some ⟨w2.heap.size, 0, none⟩) [⟨2, 0, 0, s⟩] := vrow_new w2 _ _ _ rfl rfl
      refine (c8C s _ 1 _ (by omega) hX).mono ?_
      rintro e w4 ⟨b, rfl, hbt, hb4⟩
      cases hbt
      go_wp2_with fail
      go_ret
      exact ret_mk (keepS' (hbw3.alloc hbw3.size _) (by have := hbw3.size; simp; omega) hb4)
  · go_enter Tryz.func4, Tryz.ntmps4
    go_wp2_with fail
    go_ret
    exact ret_mk (Below.refl _ _)
end Go.Proofs.YtpahhejkpdkjmaaGreatDoor
