/- exact. -/
import Derived.Test.YtpahhejkpdkjmaaGreatDoorB8
set_option linter.unusedSimpArgs false
set_option linter.unusedVariables false
namespace Go.Proofs.YtpahhejkpdkjmaaGreatDoor
open Go.RowKit
attribute [local go_sem] run_store_float
def ExactR (s t : ByteArray) (r : Value) : Prop := ∃ u : V, r = .agg #[.int .i64 u.k, .int .i64 u.n, .int .i64 u.d, .string u.t, .slice none 0 0] ∧ (u = VD ∨ (u.k = 3 ∧ u.n = b01 (s.toList == t.toList) ∧ u.t = ⟨#[]⟩))
set_option maxRecDepth 100000 in
set_option maxHeartbeats 4000000 in
theorem c114 (s t : ByteArray) (A : Option Addr) (c : Nat) (w : World) (hs : s.size ≤ 9223372036854775807) (ht : t.size ≤ 9223372036854775807) (hx : VRow w A [⟨2, 0, 0, s⟩, ⟨2, 0, 0, t⟩]) :
    Calls Tryz.prog 114 #[.slice A 2 c] w (RetV w (ExactR s t)) := by
  have hT : ∀ v, v ∈ ([⟨2, 0, 0, s⟩, ⟨2, 0, 0, t⟩] : List V) → ∀ w', Calls Tryz.prog 149 #[.agg #[.int .i64 v.k, .int .i64 v.n, .int .i64 v.d, .string v.t, .slice none 0 0]] w' (RetV w' (AsV V.t v)) := by
    intro v hv w'
    simp only [List.mem_cons, List.not_mem_nil, or_false] at hv
    rcases hv with rfl | rfl
    · exact (c149_text 0 0 s w' hs).mono fun _ _ ⟨r, e, ⟨u, hr, hu⟩, hb⟩ => ⟨r, e, ⟨u, hr, hu.imp (fun h => by rw [h]; exact ⟨rfl, rfl⟩) id⟩, hb⟩
    · exact (c149_text 0 0 t w' ht).mono fun _ _ ⟨r, e, ⟨u, hr, hu⟩, hb⟩ => ⟨r, e, ⟨u, hr, hu.imp (fun h => by rw [h]; exact ⟨rfl, rfl⟩) id⟩, hb⟩
  have HT := Lib.hid hT
  clear hT
  go_enter Tryz.func114, Tryz.ntmps114
  go_wp2_with fail
  generalize hW : World.alloc w _ = W0
  have hbW : Below w.heap.size w W0 := by rw [← hW]; exact (by repeat (first | (with_reducible exact Below.refl _ _) | (with_reducible assumption) | ((with_reducible refine Below.alloc ?_ ?_ _); rotate_left; focus (first | exact Nat.le_refl _ | omega | (simp; done) | (simp; omega))) | ((with_reducible refine Below.setCell ?_ ?_ _); rotate_left; focus (first | exact Nat.le_refl _ | omega | (simp; done) | (simp; omega))) | (with_reducible refine Below.drew ?_) | (with_reducible refine below_drewN ?_ _) | ((with_reducible refine below_via (by assumption) ?_ ?_); focus (first | exact Nat.le_refl _ | omega | (simp; done) | (simp; omega)))))
  have hsW : W0.heap.size = w.heap.size + 1 := by rw [← hW]; simp
  have HZ : Hid ((W0.cell? ⟨w.heap.size, 0, none⟩ = some (.int .i64 0) ∧ W0.cell? ⟨w.heap.size, 1, none⟩ = some (.int .i64 0) ∧ W0.cell? ⟨w.heap.size, 2, none⟩ = some (.int .i64 0) ∧ W0.cell? ⟨w.heap.size, 3, none⟩ = some (.string ⟨#[]⟩) ∧ W0.cell? ⟨w.heap.size, 4, none⟩ = some (.slice none 0 0)) ∧
      (W0.frozen? ⟨w.heap.size, 0, none⟩ = false ∧ W0.frozen? ⟨w.heap.size, 1, none⟩ = false ∧ W0.frozen? ⟨w.heap.size, 2, none⟩ = false ∧ W0.frozen? ⟨w.heap.size, 3, none⟩ = false ∧ W0.frozen? ⟨w.heap.size, 4, none⟩ = false)) := by
    rw [← hW]; exact Lib.hid ⟨⟨by simp [go_sem], by simp [go_sem], by simp [go_sem], by simp [go_sem], by simp [go_sem]⟩, ⟨by simp [go_sem], by simp [go_sem], by simp [go_sem], by simp [go_sem], by simp [go_sem]⟩⟩
  clear hW
  refine (c208 V.t [⟨2, 0, 0, s⟩, ⟨2, 0, 0, t⟩] A c W0 (by simp) (by simp) (hx.below hbW) HT.out).mono ?_
  rintro e w1 ⟨hb1, hr⟩
  have hsz : w.heap.size < W0.heap.size := by omega
  have hsz1 : w.heap.size < w1.heap.size := by have := hb1.size; omega
  obtain ⟨⟨p0, p1, p2, p3, p4⟩, ⟨s0, s1, s2, s3, s4⟩⟩ := HZ.out
  have q0 := (hb1.cell (p := ⟨w.heap.size, 0, none⟩) hsz).trans p0
  have q1 := (hb1.cell (p := ⟨w.heap.size, 1, none⟩) hsz).trans p1
  have q2 := (hb1.cell (p := ⟨w.heap.size, 2, none⟩) hsz).trans p2
  have q3 := (hb1.cell (p := ⟨w.heap.size, 3, none⟩) hsz).trans p3
  have q4 := (hb1.cell (p := ⟨w.heap.size, 4, none⟩) hsz).trans p4
  have r0 := (hb1.frozen (p := ⟨w.heap.size, 0, none⟩) hsz).trans s0
  have r1 := (hb1.frozen (p := ⟨w.heap.size, 1, none⟩) hsz).trans s1
  have r2 := (hb1.frozen (p := ⟨w.heap.size, 2, none⟩) hsz).trans s2
  have r3 := (hb1.frozen (p := ⟨w.heap.size, 3, none⟩) hsz).trans s3
  have r4 := (hb1.frozen (p := ⟨w.heap.size, 4, none⟩) hsz).trans s4
  have hfin : Below w.heap.size w w1 := below_then hbW (by omega) hb1
  clear p0 p1 p2 p3 p4 s0 s1 s2 s3 s4 hb1
  rcases hr with ⟨A1, c1, u, rfl, hrow⟩ | rfl
  · rcases hrow with h | ⟨g, rfl, hg, hc⟩
    · cases h
    have t0 : w1.cell? ⟨g, 0, none⟩ = some (.string s) := hc 0 _ rfl 0 _ rfl
    have t1 : w1.cell? ⟨g, 1, none⟩ = some (.string t) := hc 1 _ rfl 0 _ rfl
    clear hc
    go_wp2_with fail
    go_region_with (go_at_call 119; refine (c119 _ _).mono ?_; rintro e w2 ⟨rfl, hb2⟩; obtain ⟨hc2, hf2, hz2⟩ := bcell hb2; have hs2 := hb2.size)
    all_goals have m0 : w2.cell? ⟨w.heap.size, 0, none⟩ = some (.int .i64 0) := by rw [hc2 _ _ (by simp; omega)]; simp [go_sem, q0, hsz1]
    all_goals have m1 : w2.cell? ⟨w.heap.size, 1, none⟩ = some (.int .i64 0) := by rw [hc2 _ _ (by simp; omega)]; simp [go_sem, q1, hsz1]
    all_goals have m2 : w2.cell? ⟨w.heap.size, 2, none⟩ = some (.int .i64 0) := by rw [hc2 _ _ (by simp; omega)]; simp [go_sem, q2, hsz1]
    all_goals have m3 : w2.cell? ⟨w.heap.size, 3, none⟩ = some (.string ⟨#[]⟩) := by rw [hc2 _ _ (by simp; omega)]; simp [go_sem, q3, hsz1]
    all_goals have m4 : w2.cell? ⟨w.heap.size, 4, none⟩ = some (.slice none 0 0) := by rw [hc2 _ _ (by simp; omega)]; simp [go_sem, q4, hsz1]
    all_goals have hsz2 : w.heap.size < w2.heap.size := by simp at hs2; omega
    all_goals have hfin2 : Below w.heap.size w w2 := (by repeat (first | (with_reducible exact Below.refl _ _) | (with_reducible assumption) | ((with_reducible refine Below.alloc ?_ ?_ _); rotate_left; focus (first | exact Nat.le_refl _ | omega | (simp; done) | (simp; omega))) | ((with_reducible refine Below.setCell ?_ ?_ _); rotate_left; focus (first | exact Nat.le_refl _ | omega | (simp; done) | (simp; omega))) | (with_reducible refine Below.drew ?_) | (with_reducible refine below_drewN ?_ _) | ((with_reducible refine below_via (by assumption) ?_ ?_); focus (first | exact Nat.le_refl _ | omega | (simp; done) | (simp; omega)))))
    all_goals clear hc2 hf2 hz2
    all_goals go_wp2_with fail
    all_goals (refine bodyPost_ret (v := .agg #[.int .i64 3, .int .i64 (b01 (s.toList == t.toList)), .int .i64 0, .string ⟨#[]⟩, .slice none 0 0]) ?_ rfl ?_; (focus (first | (simp [results, Tryz.results114, go_sem, hc1, hz1]; done) | (simp [results, Tryz.results114, go_sem]; done) | (simp [results, Tryz.results114, go_sem, *]; done))); exact retV_mk _ ⟨⟨3, _, 0, ⟨#[]⟩⟩, rfl, .inr ⟨rfl, rfl, rfl⟩⟩ (by repeat (first | (with_reducible exact Below.refl _ _) | (with_reducible assumption) | ((with_reducible refine Below.alloc ?_ ?_ _); rotate_left; focus (first | exact Nat.le_refl _ | omega | (simp; done) | (simp; omega))) | ((with_reducible refine Below.setCell ?_ ?_ _); rotate_left; focus (first | exact Nat.le_refl _ | omega | (simp; done) | (simp; omega))) | (with_reducible refine Below.drew ?_) | (with_reducible refine below_drewN ?_ _) | ((with_reducible refine below_via (by assumption) ?_ ?_); focus (first | exact Nat.le_refl _ | omega | (simp; done) | (simp; omega))))))
  · go_wp2_with fail
    (refine bodyPost_ret (v := .agg #[.int .i64 6, .int .i64 0, .int .i64 0, .string ⟨#[]⟩, .slice none 0 0]) ?_ rfl ?_; (focus (first | (simp [results, Tryz.results114, go_sem, hc1, hz1]; done) | (simp [results, Tryz.results114, go_sem]; done) | (simp [results, Tryz.results114, go_sem, *]; done))); exact retV_mk _ ⟨VD, rfl, .inl rfl⟩ (by repeat (first | (with_reducible exact Below.refl _ _) | (with_reducible assumption) | ((with_reducible refine Below.alloc ?_ ?_ _); rotate_left; focus (first | exact Nat.le_refl _ | omega | (simp; done) | (simp; omega))) | ((with_reducible refine Below.setCell ?_ ?_ _); rotate_left; focus (first | exact Nat.le_refl _ | omega | (simp; done) | (simp; omega))) | (with_reducible refine Below.drew ?_) | (with_reducible refine below_drewN ?_ _) | ((with_reducible refine below_via (by assumption) ?_ ?_); focus (first | exact Nat.le_refl _ | omega | (simp; done) | (simp; omega))))))
end Go.Proofs.YtpahhejkpdkjmaaGreatDoor
