/- The law FnBaseDecimal. -/
import Derived.Test.YtkhgaenffnoimaaGreatDoorNB
set_option linter.unusedSimpArgs false
set_option linter.unusedVariables false
namespace Go.Proofs.YtkhgaenffnoimaaGreatDoor
open Go.RowKit FL
attribute [local go_sem] run_store_float as64
/-- The two numbers laid as a row; a new value laid behind, ahead. -/
theorem vrowNB (N B : Nat) (X : World) : VRow (X.alloc (.cells #[.int .i64 1, .int .i64 N, .int .i64 1, .string ⟨#[]⟩, .slice none 0 0, .int .i64 1, .int .i64 B, .int .i64 1, .string ⟨#[]⟩, .slice none 0 0] 32)) (some ⟨X.heap.size, 0, none⟩) [vN N, vN B] := vrow_two X (vN N) (vN B)
theorem vrowNB2 (N B : Nat) (X : World) : VRow ((X.alloc (.cells #[.int .i64 0, .int .i64 0, .int .i64 0, .string ⟨#[]⟩, .slice none 0 0] 32)).alloc (.cells #[.int .i64 1, .int .i64 N, .int .i64 1, .string ⟨#[]⟩, .slice none 0 0, .int .i64 1, .int .i64 B, .int .i64 1, .string ⟨#[]⟩, .slice none 0 0] 32)) (some ⟨X.heap.size + 1, 0, none⟩) [vN N, vN B] := by
  have h := vrowNB N B (X.alloc (.cells #[.int .i64 0, .int .i64 0, .int .i64 0, .string ⟨#[]⟩, .slice none 0 0] 32))
  rw [show (X.alloc (.cells #[.int .i64 0, .int .i64 0, .int .i64 0, .string ⟨#[]⟩, .slice none 0 0] 32)).heap.size = X.heap.size + 1 by simp] at h
  exact h
theorem vrowNB3 (N B : Nat) (X : World) : VRow ((X.alloc (.cells #[.int .i64 1, .int .i64 N, .int .i64 1, .string ⟨#[]⟩, .slice none 0 0, .int .i64 1, .int .i64 B, .int .i64 1, .string ⟨#[]⟩, .slice none 0 0] 32)).alloc (.cells #[.int .i64 0, .int .i64 0, .int .i64 0, .string ⟨#[]⟩, .slice none 0 0] 32)) (some ⟨X.heap.size, 0, none⟩) [vN N, vN B] := (vrowNB N B X).below (by repeat (first | (with_reducible exact Below.refl _ _) | (with_reducible assumption) | ((with_reducible refine Below.alloc ?_ ?_ _); rotate_left; focus (first | exact Nat.le_refl _ | omega | (simp; done) | (simp; omega))) | ((with_reducible refine Below.setCell ?_ ?_ _); rotate_left; focus (first | exact Nat.le_refl _ | omega | (simp; done) | (simp; omega))) | (with_reducible refine Below.drew ?_) | (with_reducible refine below_drewN ?_ _) | ((with_reducible refine below_via (by assumption) ?_ ?_); focus (first | exact Nat.le_refl _ | omega | (simp; done) | (simp; omega)))))
theorem vrowT {X : World} {g : Nat} (s : ByteArray) (B : Nat) (h : g = X.heap.size) : VRow (X.alloc (.cells #[.int .i64 2, .int .i64 0, .int .i64 0, .string s, .slice none 0 0, .int .i64 1, .int .i64 B, .int .i64 1, .string ⟨#[]⟩, .slice none 0 0] 32)) (some ⟨g, 0, none⟩) [vT s, vN B] := by
  subst h
  exact vrow_two X (vT s) (vN B)
theorem z_after (X : World) (t : Obj) : ZCell ((X.alloc t).alloc (.cells #[.int .i64 0, .int .i64 0, .int .i64 0, .string ⟨#[]⟩, .slice none 0 0] 32)) (X.heap.size + 1) := by
  have h := zcell_new (X.alloc t)
  rw [show (X.alloc t).heap.size = X.heap.size + 1 by simp] at h
  exact h
theorem z_of (X w2 : World) (h : Below (X.alloc (.cells #[.int .i64 0, .int .i64 0, .int .i64 0, .string ⟨#[]⟩, .slice none 0 0] 32)).drew.heap.size (X.alloc (.cells #[.int .i64 0, .int .i64 0, .int .i64 0, .string ⟨#[]⟩, .slice none 0 0] 32)).drew w2) : ZCell w2 X.heap.size := ((zcell_new X).below (zcell_new X).lt (Below.drew (Below.refl _ _))).below (B := (X.alloc (.cells #[.int .i64 0, .int .i64 0, .int .i64 0, .string ⟨#[]⟩, .slice none 0 0] 32)).drew.heap.size) (zcell_new X).lt h
theorem z_ahead (X : World) (t : Obj) : ZCell ((X.alloc (.cells #[.int .i64 0, .int .i64 0, .int .i64 0, .string ⟨#[]⟩, .slice none 0 0] 32)).alloc t) X.heap.size := (zcell_new X).below (zcell_new X).lt (by repeat (first | (with_reducible exact Below.refl _ _) | (with_reducible assumption) | ((with_reducible refine Below.alloc ?_ ?_ _); rotate_left; focus (first | exact Nat.le_refl _ | omega | (simp; done) | (simp; omega))) | ((with_reducible refine Below.setCell ?_ ?_ _); rotate_left; focus (first | exact Nat.le_refl _ | omega | (simp; done) | (simp; omega))) | (with_reducible refine Below.drew ?_) | (with_reducible refine below_drewN ?_ _) | ((with_reducible refine below_via (by assumption) ?_ ?_); focus (first | exact Nat.le_refl _ | omega | (simp; done) | (simp; omega)))))
set_option maxRecDepth 100000 in
set_option maxHeartbeats 20000000 in
theorem c5 (n b : Int) (w : World) (hn0 : -9223372036854775808 ≤ n) (hn1 : n ≤ 9223372036854775807) (hb0 : -9223372036854775808 ≤ b) (hb1 : b ≤ 9223372036854775807) (hT : Tab w) (hT4 : 15 ≤ w.heap.size) :
    Calls Tryz.prog 5 #[.int .i64 n, .int .i64 b] w (Ret w (.bool true)) := by
  by_cases hin : 0 ≤ n ∧ n ≤ 99999999999 ∧ 2 ≤ b ∧ b ≤ 36
  · obtain ⟨hi0, hi1, hi2, hi3⟩ := hin
    obtain ⟨N, rfl⟩ : ∃ N : Nat, n = N := ⟨n.toNat, by omega⟩
    obtain ⟨B, rfl⟩ : ∃ B : Nat, b = B := ⟨b.toNat, by omega⟩
    have hN : N ≤ 99999999999 := by omega
    have hB2 : 2 ≤ B := by omega
    have hB3 : B ≤ 36 := by omega
    have H18b := Lib.hid (fun W => c18 (B : Int) W (by omega) (by omega))
    have H18n := Lib.hid (fun W => c18 (N : Int) W (by omega) (by omega))
    have HSB := Lib.hid (fun W g c (h : Tab W) (h4 : 15 ≤ W.heap.size) (hx : VRow W (some ⟨g, 0, none⟩) [vN N, vN B]) => saidB B N g c W hB2 hB3 hN h h4 hx)
    have HSD := Lib.hid (fun W g c (hx : VRow W (some ⟨g, 0, none⟩) [vT (upT B N), vN B]) => saidD B N g c W hB2 hB3 hN hx)
    have HT := Lib.hid hT
    clear hT hn0 hn1 hb0 hb1 hN hB2 hB3
    go_enter Tryz.func5, Tryz.ntmps5
    go_wp2_with fail
    refine (H18b.out w).mono ?_
    rintro e w1 ⟨rfl, hb1⟩
    go_wp2_with fail
    have hbA : Below w.heap.size w (w1.alloc (.cells #[.int .i64 1, .int .i64 B, .int .i64 1, .string ⟨#[]⟩, .slice none 0 0] 32)) := hb1.alloc hb1.size _
    have q0 : (w1.alloc (.cells #[.int .i64 1, .int .i64 B, .int .i64 1, .string ⟨#[]⟩, .slice none 0 0] 32)).cell? ⟨w1.heap.size, 0, none⟩ = some (.int .i64 1) := by simp [go_sem]
    have q1 : (w1.alloc (.cells #[.int .i64 1, .int .i64 B, .int .i64 1, .string ⟨#[]⟩, .slice none 0 0] 32)).cell? ⟨w1.heap.size, 1, none⟩ = some (.int .i64 B) := by simp [go_sem]
    have q2 : (w1.alloc (.cells #[.int .i64 1, .int .i64 B, .int .i64 1, .string ⟨#[]⟩, .slice none 0 0] 32)).cell? ⟨w1.heap.size, 2, none⟩ = some (.int .i64 1) := by simp [go_sem]
    have q3 : (w1.alloc (.cells #[.int .i64 1, .int .i64 B, .int .i64 1, .string ⟨#[]⟩, .slice none 0 0] 32)).cell? ⟨w1.heap.size, 3, none⟩ = some (.string ⟨#[]⟩) := by simp [go_sem]
    have q4 : (w1.alloc (.cells #[.int .i64 1, .int .i64 B, .int .i64 1, .string ⟨#[]⟩, .slice none 0 0] 32)).cell? ⟨w1.heap.size, 4, none⟩ = some (.slice none 0 0) := by simp [go_sem]
    have hls : w1.heap.size < (w1.alloc (.cells #[.int .i64 1, .int .i64 B, .int .i64 1, .string ⟨#[]⟩, .slice none 0 0] 32)).heap.size := by simp
    generalize (w1.alloc (.cells #[.int .i64 1, .int .i64 B, .int .i64 1, .string ⟨#[]⟩, .slice none 0 0] 32)) = W1 at hbA q0 q1 q2 q3 q4 hls ⊢
    have hlsd : w1.heap.size < W1.drew.heap.size := hls
    have hws : w.heap.size ≤ W1.heap.size := hbA.size
    go_region_with (first
      | (go_at_call 18; refine (H18n.out _).mono ?_; rintro e w2 ⟨rfl, hb2'⟩; have hb2 : Below W1.heap.size W1 w2 := below_then (by repeat (first | (with_reducible exact Below.refl _ _) | (with_reducible assumption) | ((with_reducible refine Below.alloc ?_ ?_ _); rotate_left; focus (first | exact Nat.le_refl _ | omega | (simp; done) | (simp; omega))) | ((with_reducible refine Below.setCell ?_ ?_ _); rotate_left; focus (first | exact Nat.le_refl _ | omega | (simp; done) | (simp; omega))) | (with_reducible refine Below.drew ?_) | (with_reducible refine below_drewN ?_ _) | ((with_reducible refine below_via (by assumption) ?_ ?_); focus (first | exact Nat.le_refl _ | omega | (simp; done) | (simp; omega))))) (by first | (simp; done) | (simp; omega) | exact Nat.le_refl _) hb2'; have hbw2 : Below w.heap.size w w2 := keepS hb2 hbA; have HT2 : Hid (Tab w2) := Lib.hid (HT.out.below hbw2 hT4); have hs2 := hb2.size; have h15 : 15 ≤ w2.heap.size := (by omega); have r0 := (hb2.cell (p := ⟨w1.heap.size, 0, none⟩) hls).trans q0; have r1 := (hb2.cell (p := ⟨w1.heap.size, 1, none⟩) hls).trans q1; have r2 := (hb2.cell (p := ⟨w1.heap.size, 2, none⟩) hls).trans q2; have r3 := (hb2.cell (p := ⟨w1.heap.size, 3, none⟩) hls).trans q3; have r4 := (hb2.cell (p := ⟨w1.heap.size, 4, none⟩) hls).trans q4; have hl2 : w1.heap.size < w2.heap.size := (by omega); have V1 := Lib.hid (vrowNB N B w2); have V2 := Lib.hid (vrowNB2 N B w2); have V3 := Lib.hid (vrowNB3 N B w2); try (have HZ2 : Hid (ZCell w2 W1.heap.size) := Lib.hid (by with_reducible exact z_of W1 w2 hb2')))
      | (go_at_call 19; refine (HSB.out _ _ _ (HT2.out.below (by repeat (first | (with_reducible exact Below.refl _ _) | (with_reducible assumption) | ((with_reducible refine Below.alloc ?_ ?_ _); rotate_left; focus (first | exact Nat.le_refl _ | omega | (simp; done) | (simp; omega))) | ((with_reducible refine Below.setCell ?_ ?_ _); rotate_left; focus (first | exact Nat.le_refl _ | omega | (simp; done) | (simp; omega))) | (with_reducible refine Below.drew ?_) | (with_reducible refine below_drewN ?_ _) | ((with_reducible refine below_via (by assumption) ?_ ?_); focus (first | exact Nat.le_refl _ | omega | (simp; done) | (simp; omega))))) h15) (by first | omega | (simp; omega)) (by with_reducible exact V1.out)).mono ?_; rintro e w3 ⟨rfl, hb3'⟩; have hb3 : Below w2.heap.size w2 w3 := below_then (by repeat (first | (with_reducible exact Below.refl _ _) | (with_reducible assumption) | ((with_reducible refine Below.alloc ?_ ?_ _); rotate_left; focus (first | exact Nat.le_refl _ | omega | (simp; done) | (simp; omega))) | ((with_reducible refine Below.setCell ?_ ?_ _); rotate_left; focus (first | exact Nat.le_refl _ | omega | (simp; done) | (simp; omega))) | (with_reducible refine Below.drew ?_) | (with_reducible refine below_drewN ?_ _) | ((with_reducible refine below_via (by assumption) ?_ ?_); focus (first | exact Nat.le_refl _ | omega | (simp; done) | (simp; omega))))) (by first | (simp; done) | (simp; omega)) hb3'; have hs3 := hb3.size; have hl3 : w1.heap.size < w3.heap.size := (by omega); have hneA : ¬ (W1.heap.size = w1.heap.size) := (by omega); have hneB : ¬ (w2.heap.size = w1.heap.size) := (by omega); have hneC : ¬ (w2.heap.size + 1 = w1.heap.size) := (by omega); have hbw3 : Below w.heap.size w w3 := keepS hb3 hbw2; have s0 := (hb3.cell (p := ⟨w1.heap.size, 0, none⟩) hl2).trans r0; have s1 := (hb3.cell (p := ⟨w1.heap.size, 1, none⟩) hl2).trans r1; have s2 := (hb3.cell (p := ⟨w1.heap.size, 2, none⟩) hl2).trans r2; have s3 := (hb3.cell (p := ⟨w1.heap.size, 3, none⟩) hl2).trans r3; have s4 := (hb3.cell (p := ⟨w1.heap.size, 4, none⟩) hl2).trans r4; try (obtain ⟨hzl, z0, z1, z2, z3, z4, hzf⟩ := HZ2.out.below HZ2.out.lt hb3); clear hb3')
      | (go_at_call 19; refine (HSB.out _ _ _ (HT2.out.below (by repeat (first | (with_reducible exact Below.refl _ _) | (with_reducible assumption) | ((with_reducible refine Below.alloc ?_ ?_ _); rotate_left; focus (first | exact Nat.le_refl _ | omega | (simp; done) | (simp; omega))) | ((with_reducible refine Below.setCell ?_ ?_ _); rotate_left; focus (first | exact Nat.le_refl _ | omega | (simp; done) | (simp; omega))) | (with_reducible refine Below.drew ?_) | (with_reducible refine below_drewN ?_ _) | ((with_reducible refine below_via (by assumption) ?_ ?_); focus (first | exact Nat.le_refl _ | omega | (simp; done) | (simp; omega))))) h15) (by first | omega | (simp; omega)) (by with_reducible exact V2.out)).mono ?_; rintro e w3 ⟨rfl, hb3'⟩; have hb3 : Below w2.heap.size w2 w3 := below_then (by repeat (first | (with_reducible exact Below.refl _ _) | (with_reducible assumption) | ((with_reducible refine Below.alloc ?_ ?_ _); rotate_left; focus (first | exact Nat.le_refl _ | omega | (simp; done) | (simp; omega))) | ((with_reducible refine Below.setCell ?_ ?_ _); rotate_left; focus (first | exact Nat.le_refl _ | omega | (simp; done) | (simp; omega))) | (with_reducible refine Below.drew ?_) | (with_reducible refine below_drewN ?_ _) | ((with_reducible refine below_via (by assumption) ?_ ?_); focus (first | exact Nat.le_refl _ | omega | (simp; done) | (simp; omega))))) (by first | (simp; done) | (simp; omega)) hb3'; have hs3 := hb3.size; have hl3 : w1.heap.size < w3.heap.size := (by omega); have hneA : ¬ (W1.heap.size = w1.heap.size) := (by omega); have hneB : ¬ (w2.heap.size = w1.heap.size) := (by omega); have hneC : ¬ (w2.heap.size + 1 = w1.heap.size) := (by omega); have hbw3 : Below w.heap.size w w3 := keepS hb3 hbw2; have s0 := (hb3.cell (p := ⟨w1.heap.size, 0, none⟩) hl2).trans r0; have s1 := (hb3.cell (p := ⟨w1.heap.size, 1, none⟩) hl2).trans r1; have s2 := (hb3.cell (p := ⟨w1.heap.size, 2, none⟩) hl2).trans r2; have s3 := (hb3.cell (p := ⟨w1.heap.size, 3, none⟩) hl2).trans r3; have s4 := (hb3.cell (p := ⟨w1.heap.size, 4, none⟩) hl2).trans r4; obtain ⟨hzl, z0, z1, z2, z3, z4, hzf⟩ := (z_ahead w2 (.cells #[.int .i64 1, .int .i64 N, .int .i64 1, .string ⟨#[]⟩, .slice none 0 0, .int .i64 1, .int .i64 B, .int .i64 1, .string ⟨#[]⟩, .slice none 0 0] 32)).below (z_ahead w2 (.cells #[.int .i64 1, .int .i64 N, .int .i64 1, .string ⟨#[]⟩, .slice none 0 0, .int .i64 1, .int .i64 B, .int .i64 1, .string ⟨#[]⟩, .slice none 0 0] 32)).lt hb3'; clear hb3')
      | (go_at_call 19; refine (HSB.out _ _ _ (HT2.out.below (by repeat (first | (with_reducible exact Below.refl _ _) | (with_reducible assumption) | ((with_reducible refine Below.alloc ?_ ?_ _); rotate_left; focus (first | exact Nat.le_refl _ | omega | (simp; done) | (simp; omega))) | ((with_reducible refine Below.setCell ?_ ?_ _); rotate_left; focus (first | exact Nat.le_refl _ | omega | (simp; done) | (simp; omega))) | (with_reducible refine Below.drew ?_) | (with_reducible refine below_drewN ?_ _) | ((with_reducible refine below_via (by assumption) ?_ ?_); focus (first | exact Nat.le_refl _ | omega | (simp; done) | (simp; omega))))) h15) (by first | omega | (simp; omega)) (by with_reducible exact V3.out)).mono ?_; rintro e w3 ⟨rfl, hb3'⟩; have hb3 : Below w2.heap.size w2 w3 := below_then (by repeat (first | (with_reducible exact Below.refl _ _) | (with_reducible assumption) | ((with_reducible refine Below.alloc ?_ ?_ _); rotate_left; focus (first | exact Nat.le_refl _ | omega | (simp; done) | (simp; omega))) | ((with_reducible refine Below.setCell ?_ ?_ _); rotate_left; focus (first | exact Nat.le_refl _ | omega | (simp; done) | (simp; omega))) | (with_reducible refine Below.drew ?_) | (with_reducible refine below_drewN ?_ _) | ((with_reducible refine below_via (by assumption) ?_ ?_); focus (first | exact Nat.le_refl _ | omega | (simp; done) | (simp; omega))))) (by first | (simp; done) | (simp; omega)) hb3'; have hs3 := hb3.size; have hl3 : w1.heap.size < w3.heap.size := (by omega); have hneA : ¬ (W1.heap.size = w1.heap.size) := (by omega); have hneB : ¬ (w2.heap.size = w1.heap.size) := (by omega); have hneC : ¬ (w2.heap.size + 1 = w1.heap.size) := (by omega); have hbw3 : Below w.heap.size w w3 := keepS hb3 hbw2; have s0 := (hb3.cell (p := ⟨w1.heap.size, 0, none⟩) hl2).trans r0; have s1 := (hb3.cell (p := ⟨w1.heap.size, 1, none⟩) hl2).trans r1; have s2 := (hb3.cell (p := ⟨w1.heap.size, 2, none⟩) hl2).trans r2; have s3 := (hb3.cell (p := ⟨w1.heap.size, 3, none⟩) hl2).trans r3; have s4 := (hb3.cell (p := ⟨w1.heap.size, 4, none⟩) hl2).trans r4; obtain ⟨hzl, z0, z1, z2, z3, z4, hzf⟩ := (z_after w2 (.cells #[.int .i64 1, .int .i64 N, .int .i64 1, .string ⟨#[]⟩, .slice none 0 0, .int .i64 1, .int .i64 B, .int .i64 1, .string ⟨#[]⟩, .slice none 0 0] 32)).below (z_after w2 (.cells #[.int .i64 1, .int .i64 N, .int .i64 1, .string ⟨#[]⟩, .slice none 0 0, .int .i64 1, .int .i64 B, .int .i64 1, .string ⟨#[]⟩, .slice none 0 0] 32)).lt hb3'; clear hb3'))
    all_goals
      go_wp2_with fail
      refine (HSD.out _ _ _ (vrowT _ _ (by first | rfl | (simp; done) | (simp; omega)))).mono ?_
      rintro e w5 ⟨rfl, hb5⟩
      have hb5w : Below w.heap.size w w5 := keepS hb5 (by repeat (first | (with_reducible exact Below.refl _ _) | (with_reducible assumption) | ((with_reducible refine Below.alloc ?_ ?_ _); rotate_left; focus (first | exact Nat.le_refl _ | omega | (simp; done) | (simp; omega))) | ((with_reducible refine Below.setCell ?_ ?_ _); rotate_left; focus (first | exact Nat.le_refl _ | omega | (simp; done) | (simp; omega))) | (with_reducible refine Below.drew ?_) | (with_reducible refine below_drewN ?_ _) | ((with_reducible refine below_via (by assumption) ?_ ?_); focus (first | exact Nat.le_refl _ | omega | (simp; done) | (simp; omega)))))
      try clear z0 z1 z2 z3 z4 hzf
      clear hb5 s0 s1 s2 s3 s4 r0 r1 r2 r3 r4 q0 q1 q2 q3 q4
      go_wp2_with fail
      refine (H18n.out w5).mono ?_
      rintro e w6 ⟨rfl, hb6⟩
      have hb6w : Below w.heap.size w w6 := keepS hb6 hb5w
      go_wp2_with fail
      refine (c21 1 (N : Int) 1 ⟨#[]⟩ w6).mono ?_
      rintro e w7 ⟨rfl, hb7⟩
      go_wp2_with fail
      go_ret
      exact ret_mk (keepS hb7 hb6w)
  · by_cases h1 : n < 0
    · clear hT hin
      go_enter Tryz.func5, Tryz.ntmps5
      go_wp2_with fail
      go_ret
      exact ret_mk (Below.refl _ _)
    · by_cases h2 : 99999999999 < n
      · clear hT hin
        go_enter Tryz.func5, Tryz.ntmps5
        go_wp2_with fail
        go_ret
        exact ret_mk (Below.refl _ _)
      · by_cases h3 : b < 2
        · clear hT hin
          go_enter Tryz.func5, Tryz.ntmps5
          go_wp2_with fail
          go_ret
          exact ret_mk (Below.refl _ _)
        · have h4 : 36 < b := by omega
          clear hT hin
          go_enter Tryz.func5, Tryz.ntmps5
          go_wp2_with fail
          go_ret
          exact ret_mk (Below.refl _ _)
end Go.Proofs.YtkhgaenffnoimaaGreatDoor
