/- The reference's dispatch at the name CODE: what falls through. -/
import Derived.Test.YtpahhejkpdkjmaaGreatDoorB1
set_option linter.unusedSimpArgs false
set_option linter.unusedVariables false
namespace Go.Proofs.YtpahhejkpdkjmaaGreatDoor
open Go.RowKit
attribute [local go_sem] run_store_float
set_option maxRecDepth 100000 in
set_option maxHeartbeats 1000000 in
theorem c41C (A : Value) (w : World) : Calls Tryz.prog 41 #[.string ⟨#[67, 79, 68, 69]⟩, A] w (Ret w (.tuple #[.agg #[.int .i64 0, .int .i64 0, .int .i64 0, .string ⟨#[]⟩, .slice none 0 0], .bool false])) := by
  go_enter Tryz.func41, Tryz.ntmps41
  go_wp2_with fail
  exact bodyPost_ret (v := .tuple #[.agg #[.int .i64 0, .int .i64 0, .int .i64 0, .string ⟨#[]⟩, .slice none 0 0], .bool false]) (by first | (simp [results, Tryz.results41, go_sem, hc1, hz1]; done) | (simp [results, Tryz.results41, go_sem]; done) | (simp [results, Tryz.results41, go_sem, *]; done)) rfl (ret_mk (by repeat (first | (with_reducible exact Below.refl _ _) | (with_reducible assumption) | ((with_reducible refine Below.alloc ?_ ?_ _); rotate_left; focus (first | exact Nat.le_refl _ | omega | (simp; done) | (simp; omega))) | ((with_reducible refine Below.setCell ?_ ?_ _); rotate_left; focus (first | exact Nat.le_refl _ | omega | (simp; done) | (simp; omega))) | (with_reducible refine Below.drew ?_) | (with_reducible refine below_drewN ?_ _) | ((with_reducible refine below_via (by assumption) ?_ ?_); focus (first | exact Nat.le_refl _ | omega | (simp; done) | (simp; omega))))))
set_option maxRecDepth 100000 in
set_option maxHeartbeats 1000000 in
theorem c42C (A : Value) (w : World) : Calls Tryz.prog 42 #[.string ⟨#[67, 79, 68, 69]⟩, A] w (Ret w (.tuple #[.agg #[.int .i64 0, .int .i64 0, .int .i64 0, .string ⟨#[]⟩, .slice none 0 0], .bool false])) := by
  go_enter Tryz.func42, Tryz.ntmps42
  go_wp2_with fail
  exact bodyPost_ret (v := .tuple #[.agg #[.int .i64 0, .int .i64 0, .int .i64 0, .string ⟨#[]⟩, .slice none 0 0], .bool false]) (by first | (simp [results, Tryz.results42, go_sem, hc1, hz1]; done) | (simp [results, Tryz.results42, go_sem]; done) | (simp [results, Tryz.results42, go_sem, *]; done)) rfl (ret_mk (by repeat (first | (with_reducible exact Below.refl _ _) | (with_reducible assumption) | ((with_reducible refine Below.alloc ?_ ?_ _); rotate_left; focus (first | exact Nat.le_refl _ | omega | (simp; done) | (simp; omega))) | ((with_reducible refine Below.setCell ?_ ?_ _); rotate_left; focus (first | exact Nat.le_refl _ | omega | (simp; done) | (simp; omega))) | (with_reducible refine Below.drew ?_) | (with_reducible refine below_drewN ?_ _) | ((with_reducible refine below_via (by assumption) ?_ ?_); focus (first | exact Nat.le_refl _ | omega | (simp; done) | (simp; omega))))))
set_option maxRecDepth 100000 in
set_option maxHeartbeats 1000000 in
theorem c43C (A : Value) (w : World) : Calls Tryz.prog 43 #[.string ⟨#[67, 79, 68, 69]⟩, A] w (Ret w (.tuple #[.agg #[.int .i64 0, .int .i64 0, .int .i64 0, .string ⟨#[]⟩, .slice none 0 0], .bool false])) := by
  go_enter Tryz.func43, Tryz.ntmps43
  go_wp2_with fail
  exact bodyPost_ret (v := .tuple #[.agg #[.int .i64 0, .int .i64 0, .int .i64 0, .string ⟨#[]⟩, .slice none 0 0], .bool false]) (by first | (simp [results, Tryz.results43, go_sem, hc1, hz1]; done) | (simp [results, Tryz.results43, go_sem]; done) | (simp [results, Tryz.results43, go_sem, *]; done)) rfl (ret_mk (by repeat (first | (with_reducible exact Below.refl _ _) | (with_reducible assumption) | ((with_reducible refine Below.alloc ?_ ?_ _); rotate_left; focus (first | exact Nat.le_refl _ | omega | (simp; done) | (simp; omega))) | ((with_reducible refine Below.setCell ?_ ?_ _); rotate_left; focus (first | exact Nat.le_refl _ | omega | (simp; done) | (simp; omega))) | (with_reducible refine Below.drew ?_) | (with_reducible refine below_drewN ?_ _) | ((with_reducible refine below_via (by assumption) ?_ ?_); focus (first | exact Nat.le_refl _ | omega | (simp; done) | (simp; omega))))))
set_option maxRecDepth 100000 in
set_option maxHeartbeats 1000000 in
theorem c44C (A : Value) (w : World) : Calls Tryz.prog 44 #[.string ⟨#[67, 79, 68, 69]⟩, A] w (Ret w (.tuple #[.agg #[.int .i64 0, .int .i64 0, .int .i64 0, .string ⟨#[]⟩, .slice none 0 0], .bool false])) := by
  go_enter Tryz.func44, Tryz.ntmps44
  go_wp2_with fail
  exact bodyPost_ret (v := .tuple #[.agg #[.int .i64 0, .int .i64 0, .int .i64 0, .string ⟨#[]⟩, .slice none 0 0], .bool false]) (by first | (simp [results, Tryz.results44, go_sem, hc1, hz1]; done) | (simp [results, Tryz.results44, go_sem]; done) | (simp [results, Tryz.results44, go_sem, *]; done)) rfl (ret_mk (by repeat (first | (with_reducible exact Below.refl _ _) | (with_reducible assumption) | ((with_reducible refine Below.alloc ?_ ?_ _); rotate_left; focus (first | exact Nat.le_refl _ | omega | (simp; done) | (simp; omega))) | ((with_reducible refine Below.setCell ?_ ?_ _); rotate_left; focus (first | exact Nat.le_refl _ | omega | (simp; done) | (simp; omega))) | (with_reducible refine Below.drew ?_) | (with_reducible refine below_drewN ?_ _) | ((with_reducible refine below_via (by assumption) ?_ ?_); focus (first | exact Nat.le_refl _ | omega | (simp; done) | (simp; omega))))))
set_option maxRecDepth 100000 in
set_option maxHeartbeats 1000000 in
theorem c62C (xs : List V) (A : Option Addr) (c : Nat) (w : World) (hl : xs.length ≤ 1000) (hx : VRow w A xs) (hN : ∀ v, v ∈ xs → ∀ w', Calls Tryz.prog 144 #[.agg #[.int .i64 v.k, .int .i64 v.n, .int .i64 v.d, .string v.t, .slice none 0 0]] w' (RetB w' fun _ => True)) :
    Calls Tryz.prog 62 #[.string ⟨#[67, 79, 68, 69]⟩, .slice A xs.length c] w (Ret w (.tuple #[.bool false, .bool false])) := by
  have HC := Lib.hid (c143 144 (fun _ _ => True) xs A c w (by omega) hx enters144 hN)
  generalize xs.length = n at HC hl ⊢
  clear hN
  go_enter Tryz.func62, Tryz.ntmps62
  go_wp2_with (go_at_call 143; refine HC.out.mono ?_; rintro e w1 ⟨b, rfl, _, hb1⟩)
  exact bodyPost_ret (v := .tuple #[.bool false, .bool false]) (by first | (simp [results, Tryz.results62, go_sem, hc1, hz1]; done) | (simp [results, Tryz.results62, go_sem]; done) | (simp [results, Tryz.results62, go_sem, *]; done)) rfl (ret_mk (by repeat (first | (with_reducible exact Below.refl _ _) | (with_reducible assumption) | ((with_reducible refine Below.alloc ?_ ?_ _); rotate_left; focus (first | exact Nat.le_refl _ | omega | (simp; done) | (simp; omega))) | ((with_reducible refine Below.setCell ?_ ?_ _); rotate_left; focus (first | exact Nat.le_refl _ | omega | (simp; done) | (simp; omega))) | (with_reducible refine Below.drew ?_) | (with_reducible refine below_drewN ?_ _) | ((with_reducible refine below_via (by assumption) ?_ ?_); focus (first | exact Nat.le_refl _ | omega | (simp; done) | (simp; omega))))))
end Go.Proofs.YtpahhejkpdkjmaaGreatDoor
