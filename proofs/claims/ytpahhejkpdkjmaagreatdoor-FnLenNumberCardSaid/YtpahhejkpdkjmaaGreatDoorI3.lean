/- AGREES where the reference is in doubt. -/
import Derived.Test.YtpahhejkpdkjmaaGreatDoorI2
set_option linter.unusedSimpArgs false
set_option linter.unusedVariables false
namespace Go.Proofs.YtpahhejkpdkjmaaGreatDoor
open Go.RowKit
attribute [local go_sem] run_store_float
set_option maxRecDepth 100000 in
set_option maxHeartbeats 4000000 in
theorem c8D (F : Value) (name : ByteArray) (xs : List V) (A : Option Addr) (c : Nat) (w : World) (R : V → Prop)
    (hl : xs.length ≤ 1000) (hx : VRow w A xs) (hk : ∀ v, v ∈ xs → v.k ≠ 5)
    (h17 : ∀ W, Below w.heap.size w W → Calls Tryz.prog 17 #[.string name, .slice A xs.length c] W (RetV W (VR R)))
    (hR : ∀ u, R u → u.k = 6) :
    Calls Tryz.prog 8 #[F, .string name, .slice A xs.length c] w (RetB w fun b => b = true) := by
  have hA : A = none → xs = [] := fun h => by
    rcases hx with h' | ⟨g, h', _⟩
    · exact h'
    · rw [h] at h'; cases h'
  have H17 := Lib.hid h17
  have HX := Lib.hid hx
  have h18 : ∀ g2 W, VRow W A xs → g2 < W.heap.size → W.cell? ⟨g2, 0, none⟩ = some (.slice A xs.length c) → Calls Tryz.prog 18 #[.agg #[.int .i64 5, .int .i64 0, .int .i64 0, .string ⟨#[]⟩, .slice (some ⟨g2, 0, none⟩) 1 1]] W (RetB W fun _ => True) :=
    fun g2 W hxW hg hr => c18T xs A c g2 W hl hxW hA hk hg hr
  have H18T := Lib.hid h18
  have HR := Lib.hid hR
  clear h18 h17 hx hR hk hA
  obtain ⟨n, hn⟩ : ∃ n, n = xs.length := ⟨_, rfl⟩
  rw [← hn] at H17 H18T hl ⊢
  clear hn
  go_enter Tryz.func8, Tryz.ntmps8
  go_wp2_with fail
  refine (H17.out w (Below.refl _ _)).mono ?_
  rintro e w1 ⟨_, rfl, ⟨u, rfl, hru⟩, hb1⟩
  have HRU := Lib.hid hru
  have hX1 := Lib.hid (HX.out.below hb1)
  clear hru
  go_wp2_with fail
  refine (c19 _ _ _ _).mono ?_
  rintro e w2 ⟨rfl, hb2⟩
  have hb2' : Below w1.heap.size w1 w2 := (by repeat (first | (with_reducible exact Below.refl _ _) | (with_reducible assumption) | ((with_reducible refine Below.alloc ?_ ?_ _); rotate_left; focus (first | exact Nat.le_refl _ | omega | (simp; done) | (simp; omega))) | ((with_reducible refine Below.setCell ?_ ?_ _); rotate_left; focus (first | exact Nat.le_refl _ | omega | (simp; done) | (simp; omega))) | (with_reducible refine Below.drew ?_) | (with_reducible refine below_drewN ?_ _) | ((with_reducible refine below_via (by assumption) ?_ ?_); focus (first | exact Nat.le_refl _ | omega | (simp; done) | (simp; omega)))))
  have hs2 := hb2.size
  simp at hs2
  have hU : VCell w2 w1.heap.size 0 u := ⟨by rw [(bcell hb2).1 _ _ (by simp; omega)]; simp [go_sem], by rw [(bcell hb2).1 _ _ (by simp; omega)]; simp [go_sem], by rw [(bcell hb2).1 _ _ (by simp; omega)]; simp [go_sem], by rw [(bcell hb2).1 _ _ (by simp; omega)]; simp [go_sem], by rw [(bcell hb2).1 _ _ (by simp; omega)]; simp [go_sem]⟩
  have hG : w2.cell? ⟨w1.heap.size + 1, 0, none⟩ = some (.slice A n c) := by rw [(bcell hb2).1 _ _ (by simp)]; simp [go_sem]
  have hbw2 : Below w.heap.size w w2 := keepS hb2' hb1
  have hX2 := Lib.hid (HX.out.below hbw2)
  have hsw2 : w1.heap.size < w2.heap.size := by omega
  clear hb2
  go_wp2_with fail
  refine (H18T.out (w1.heap.size + 1) w2 hX2.out (by omega) hG).mono ?_
  rintro e w3 ⟨b, rfl, _, hb3⟩
  have hU3 := hU.below hb3 hsw2
  have hbw3 : Below w.heap.size w w3 := keepS hb3 hbw2
  have hX3 := Lib.hid (HX.out.below hbw3)
  have hs3 := hb3.size
  have hsw3 : w1.heap.size < w3.heap.size := by omega
  clear hG hU hb3 hb2' hX2
  cases b
  · obtain ⟨h0, h1, h2, h3, h4⟩ := hU3
    go_wp2_with (go_at_call 18; refine (c18 u _ (by rw [HR.out u HRU.out]; decide)).mono ?_; rintro e w4 ⟨b, rfl, hdb, hb4⟩; obtain ⟨hc4, hf4, hz4⟩ := bcell hb4; have hs4 : w1.heap.size < w4.heap.size := hz4 _ hsw3; have HDB := Lib.hid hdb; clear hdb)
    · go_ret
      exact retB_mk _ rfl (keepS hb4 hbw3)
    · have hbf : b = false := by assumption
      have hu6 : u.k ≠ 6 := HDB.out hbf
      exact absurd (HR.out u HRU.out) hu6
  · go_wp2_with fail
    go_ret
    exact retB_mk _ rfl (by repeat (first | (with_reducible exact Below.refl _ _) | (with_reducible assumption) | ((with_reducible refine Below.alloc ?_ ?_ _); rotate_left; focus (first | exact Nat.le_refl _ | omega | (simp; done) | (simp; omega))) | ((with_reducible refine Below.setCell ?_ ?_ _); rotate_left; focus (first | exact Nat.le_refl _ | omega | (simp; done) | (simp; omega))) | (with_reducible refine Below.drew ?_) | (with_reducible refine below_drewN ?_ _) | ((with_reducible refine below_via (by assumption) ?_ ?_); focus (first | exact Nat.le_refl _ | omega | (simp; done) | (simp; omega)))))
end Go.Proofs.YtpahhejkpdkjmaaGreatDoor
