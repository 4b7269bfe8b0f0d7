/- AGREES, the implementation's answer asked for in a world that has grown out of the first. -/
import Derived.Test.YtpahhejkpdkjmaaGreatDoorI2
set_option linter.unusedSimpArgs false
set_option linter.unusedVariables false
namespace Go.Proofs.YtpahhejkpdkjmaaGreatDoor
open Go.RowKit
attribute [local go_sem] run_store_float
set_option maxRecDepth 100000 in
set_option maxHeartbeats 4000000 in
theorem c8T (F : Nat) (name : ByteArray) (xs : List V) (A : Option Addr) (c : Nat) (w : World) (ofI : V → I) (R : V → Prop) (S : I → Prop)
    (hl : xs.length ≤ 1000) (h0 : 0 < xs.length) (hx : VRow w A xs) (hk : ∀ v, v ∈ xs → v.k ≠ 5)
    (hent : ∀ (args : Array Value) (W : World), (callFunc F args).run Tryz.prog W = .ok (.enter F args) W)
    (h17 : ∀ W, Below w.heap.size w W → Calls Tryz.prog 17 #[.string name, .slice A xs.length c] W (RetV W (VR R)))
    (hR5 : ∀ u, R u → u.k ≠ 5)
    (h31 : ∀ v, v ∈ xs → ∀ w', Calls Tryz.prog 31 #[.agg #[.int .i64 v.k, .int .i64 v.n, .int .i64 v.d, .string v.t, .slice none 0 0]] w' (Ret w' (.agg #[.int .i64 (ofI v).k, .float .f64 (ofI v).b, .string (ofI v).t, .slice none 0 0])))
    (hF : ∀ W A' c', Below w.heap.size w W → IRow W A' (xs.map ofI) → Calls Tryz.prog F #[.slice A' xs.length c'] W (RetV W fun r => ∃ i : I, r = .agg #[.int .i64 i.k, .float .f64 i.b, .string i.t, .slice none 0 0] ∧ S i))
    (hS : ∀ u i, R u → u.k ≠ 6 → S i → (∀ w', Calls Tryz.prog 31 #[.agg #[.int .i64 u.k, .int .i64 u.n, .int .i64 u.d, .string u.t, .slice none 0 0]] w' (Ret w' (.agg #[.int .i64 i.k, .float .f64 i.b, .string i.t, .slice none 0 0]))) ∧ FloatKind.f64.format.order i.b i.b = some Ordering.eq) :
    Calls Tryz.prog 8 #[.func (.func F) #[] #[], .string name, .slice A xs.length c] w (RetB w fun b => b = true) := by
  have hA : A = none → xs = [] := fun h => by
    rcases hx with h' | ⟨g, h', _⟩
    · exact h'
    · rw [h] at h'; cases h'
  have H17 := Lib.hid h17
  have H31 := Lib.hid h31
  have HF := Lib.hid hF
  have HS := Lib.hid hS
  have HX := Lib.hid hx
  have h18 : ∀ g2 W, VRow W A xs → g2 < W.heap.size → W.cell? ⟨g2, 0, none⟩ = some (.slice A xs.length c) → Calls Tryz.prog 18 #[.agg #[.int .i64 5, .int .i64 0, .int .i64 0, .string ⟨#[]⟩, .slice (some ⟨g2, 0, none⟩) 1 1]] W (RetB W fun _ => True) :=
    fun g2 W hxW hg hr => c18T xs A c g2 W hl hxW hA hk hg hr
  have H18T := Lib.hid h18
  have h21 : ∀ W, VRow W A xs → Calls Tryz.prog 21 #[.slice A xs.length c] W (fun e w' => ∃ A' c', e = .returned (.slice A' xs.length c') ∧ IRow w' A' (xs.map ofI) ∧ Below W.heap.size W w') :=
    fun W hxW => (c21 ofI xs A c W hl h0 hxW h31).mono fun e w' ⟨A', c', he, hi, hb⟩ => ⟨A', c', by rw [he, List.length_map], hi, hb⟩
  have H21 := Lib.hid h21
  have HR5 := Lib.hid hR5
  clear h18 h21 h17 h31 hF hS hx hR5 hk hA
  obtain ⟨n, hn⟩ : ∃ n, n = xs.length := ⟨_, rfl⟩
  rw [← hn] at H17 H21 H18T HF hl h0 ⊢
  clear hn
  go_enter Tryz.func8, Tryz.ntmps8
  go_wp2_with fail
  refine (H17.out w (Below.refl _ _)).mono ?_
  rintro e w1 ⟨_, rfl, ⟨u, rfl, hru⟩, hb1⟩
  have HRU := Lib.hid hru
  have hX1 := Lib.hid (HX.out.below hb1)
  clear hru
  go_wp2_with fail
  refine (c19 _ _ _ _).mono ?_
  rintro e w2 ⟨rfl, hb2⟩
  have hb2' : Below w1.heap.size w1 w2 := (by repeat (first | (with_reducible exact Below.refl _ _) | (with_reducible assumption) | ((with_reducible refine Below.alloc ?_ ?_ _); rotate_left; focus (first | exact Nat.le_refl _ | omega | (simp; done) | (simp; omega))) | ((with_reducible refine Below.setCell ?_ ?_ _); rotate_left; focus (first | exact Nat.le_refl _ | omega | (simp; done) | (simp; omega))) | (with_reducible refine Below.drew ?_) | (with_reducible refine below_drewN ?_ _) | ((with_reducible refine below_via (by assumption) ?_ ?_); focus (first | exact Nat.le_refl _ | omega | (simp; done) | (simp; omega)))))
  have hs2 := hb2.size
  simp at hs2
  have hU : VCell w2 w1.heap.size 0 u := ⟨by rw [(bcell hb2).1 _ _ (by simp; omega)]; simp [go_sem], by rw [(bcell hb2).1 _ _ (by simp; omega)]; simp [go_sem], by rw [(bcell hb2).1 _ _ (by simp; omega)]; simp [go_sem], by rw [(bcell hb2).1 _ _ (by simp; omega)]; simp [go_sem], by rw [(bcell hb2).1 _ _ (by simp; omega)]; simp [go_sem]⟩
  have hG : w2.cell? ⟨w1.heap.size + 1, 0, none⟩ = some (.slice A n c) := by rw [(bcell hb2).1 _ _ (by simp)]; simp [go_sem]
  have hbw2 : Below w.heap.size w w2 := keepS hb2' hb1
  have hX2 := Lib.hid (HX.out.below hbw2)
  have hsw2 : w1.heap.size < w2.heap.size := by omega
  clear hb2
  go_wp2_with fail
  refine (H18T.out (w1.heap.size + 1) w2 hX2.out (by omega) hG).mono ?_
  rintro e w3 ⟨b, rfl, _, hb3⟩
  have hU3 := hU.below hb3 hsw2
  have hbw3 : Below w.heap.size w w3 := keepS hb3 hbw2
  have hX3 := Lib.hid (HX.out.below hbw3)
  have hs3 := hb3.size
  have hsw3 : w1.heap.size < w3.heap.size := by omega
  clear hG hU hb3 hb2' hX2
  cases b
  · obtain ⟨h0, h1, h2, h3, h4⟩ := hU3
    go_wp2_with (go_at_call 18; refine (c18 u _ (HR5.out u HRU.out)).mono ?_; rintro e w4 ⟨b, rfl, hdb, hb4⟩; obtain ⟨hc4, hf4, hz4⟩ := bcell hb4; have hs4 : w1.heap.size < w4.heap.size := hz4 _ hsw3; have HDB := Lib.hid hdb; clear hdb)
    · go_ret
      exact retB_mk _ rfl (keepS hb4 hbw3)
    · have hbf : b = false := by assumption
      have hu6 : u.k ≠ 6 := HDB.out hbf
      have hbw4 : Below w.heap.size w w4 := keepS hb4 hbw3
      have hU4 : VCell w4 w1.heap.size 0 u := (VCell.mk h0 h1 h2 h3 h4).below hb4 hsw3
      have HU4 := Lib.hid hU4
      have hX4 := Lib.hid (hX3.out.below hb4)
      clear h0 h1 h2 h3 h4 hc4 hf4 hz4 hb4 hs3 hs2 hX1 hX3
      obtain ⟨h0, h1, h2, h3, h4⟩ := hU4
      have hsz4 : w.heap.size ≤ w4.heap.size := hbw4.size
      clear hbw3 hbw2 hb1
      go_region_with (first
        | (go_at_call 21; refine (H21.out w4.drew (hX4.out.below (Below.drew (Below.refl _ _)))).mono ?_; rintro e w5 ⟨A5, c5, rfl, hi5, hb5⟩; have hb5' : Below w4.heap.size w4 w5 := below_then (Below.drew (Below.refl _ _)) (Nat.le_refl _) hb5; have hs5 : w4.heap.size ≤ w5.heap.size := hb5'.size; have hl5 : w1.heap.size < w5.heap.size := (by omega); have HI5 := Lib.hid hi5; obtain ⟨i0, i1, i2, i3, i4⟩ := HU4.out.below hb5' hs4; clear hb5 hi5)
        | (go_at_call 20; refine (c20 i u _ (HS.out u i HRU.out hu6 HSI.out).2 (HS.out u i HRU.out hu6 HSI.out).1).mono ?_; rintro e w7 ⟨_, rfl, rfl, hb7⟩; have hb7' : Below w4.heap.size w4 w7 := keepS hb7 hb6')
        | (refine (HF.out _ _ _ (keepS hb5' hbw4) HI5.out).mono ?_; rintro e w6 ⟨_, rfl, ⟨i, rfl, hsi⟩, hb6⟩; have hb6' : Below w4.heap.size w4 w6 := keepS hb6 hb5'; have hs6 : w4.heap.size ≤ w6.heap.size := hb6'.size; have hl6 : w1.heap.size < w6.heap.size := (by omega); have HSI := Lib.hid hsi; obtain ⟨j0, j1, j2, j3, j4⟩ := HU4.out.below hb6' hs4; clear hb6 hsi))
      all_goals go_wp2_with fail
      all_goals go_ret
      all_goals exact retB_mk _ rfl (keepS hb7' hbw4)
  · go_wp2_with fail
    go_ret
    exact retB_mk _ rfl (by repeat (first | (with_reducible exact Below.refl _ _) | (with_reducible assumption) | ((with_reducible refine Below.alloc ?_ ?_ _); rotate_left; focus (first | exact Nat.le_refl _ | omega | (simp; done) | (simp; omega))) | ((with_reducible refine Below.setCell ?_ ?_ _); rotate_left; focus (first | exact Nat.le_refl _ | omega | (simp; done) | (simp; omega))) | (with_reducible refine Below.drew ?_) | (with_reducible refine below_drewN ?_ _) | ((with_reducible refine below_via (by assumption) ?_ ?_); focus (first | exact Nat.le_refl _ | omega | (simp; done) | (simp; omega)))))
end Go.Proofs.YtpahhejkpdkjmaaGreatDoor
