/- numeric, textual, AsText and every of the reference. -/
import Derived.Test.YtpahhejkpdkjmaaGreatDoorA5
import Derived.Test.YtpahhejkpdkjmaaGreatDoorA3
import Derived.Deep.RegionWith
set_option linter.unusedSimpArgs false
set_option linter.unusedVariables false
namespace Go.Proofs.YtpahhejkpdkjmaaGreatDoor
open Go.RowKit
attribute [local go_sem] run_store_float

theorem readR_whole {n : Int} {t : ByteArray} (h : ReadR 1 n 1 t) : -99999999999 ≤ n ∧ n ≤ 99999999999 := by
  rcases h with (h | h) | h
  · have := h.1; omega
  · have := h.1; omega
  · exact ⟨h.2.2.2.1, h.2.2.2.2⟩
set_option maxRecDepth 100000 in
set_option maxHeartbeats 8000000 in
theorem c144_text (n0 d0 : Int) (s : ByteArray) (w : World) (hs : s.size ≤ 9223372036854775807) : Calls Tryz.prog 144 #[.agg #[.int .i64 2, .int .i64 n0, .int .i64 d0, .string s, .slice none 0 0]] w (RetB w fun _ => True) := by
  go_enter Tryz.func144, Tryz.ntmps144
  go_wp2_with (go_at_call 216; refine (c216 _ _ hs).mono ?_; rintro e w1 ⟨_, rfl, ⟨k1, n1, d1, t1, rfl, hv⟩, hb1⟩; obtain ⟨hc1, hf1, hz1⟩ := bcell hb1; have hle1 := hb1.size; try have hs1 : w.heap.size < w1.heap.size := hz1 _ (by first | (simp; done) | (simp; omega) | omega); try have hs2 : w.heap.size + 1 < w1.heap.size := hz1 _ (by first | (simp; done) | (simp; omega) | omega); try have hs3 : w.heap.size + 1 + 1 < w1.heap.size := hz1 _ (by first | (simp; done) | (simp; omega) | omega))
  have hB0 : Below w.heap.size w (w1.alloc (.cells #[.int .i64 k1, .int .i64 n1, .int .i64 d1, .string t1, .slice none 0 0] 27)) := (by repeat (first | (with_reducible exact Below.refl _ _) | (with_reducible assumption) | ((with_reducible refine Below.alloc ?_ ?_ _); rotate_left; focus (first | exact Nat.le_refl _ | omega | (simp; done) | (simp; omega))) | ((with_reducible refine Below.setCell ?_ ?_ _); rotate_left; focus (first | exact Nat.le_refl _ | omega | (simp; done) | (simp; omega))) | (with_reducible refine Below.drew ?_) | (with_reducible refine below_drewN ?_ _) | ((with_reducible refine below_via (by assumption) ?_ ?_); focus (first | exact Nat.le_refl _ | omega | (simp; done) | (simp; omega)))))
  have hz0 : w1.heap.size < (w1.alloc (.cells #[.int .i64 k1, .int .i64 n1, .int .i64 d1, .string t1, .slice none 0 0] 27)).heap.size := by simp
  have hc0 : ∀ j u, (#[.int .i64 k1, .int .i64 n1, .int .i64 d1, .string t1, .slice none 0 0] : Array Value)[j]? = some u → (w1.alloc (.cells #[.int .i64 k1, .int .i64 n1, .int .i64 d1, .string t1, .slice none 0 0] 27)).cell? ⟨w1.heap.size, j, none⟩ = some u := fun j u h => by
    rw [World.cell?_alloc_new]
    exact h
  have hs0 : (w1.alloc (.cells #[.int .i64 k1, .int .i64 n1, .int .i64 d1, .string t1, .slice none 0 0] 27)).cell? ⟨w.heap.size, 3, none⟩ = some (.string s) := by
    rw [World.cell?_alloc_lt _ _ _ hs1, hc1 _ _ (by simp)]
    simp
  generalize w1.alloc (.cells #[.int .i64 k1, .int .i64 n1, .int .i64 d1, .string t1, .slice none 0 0] 27) = W0 at *
  have e0 := hc0 0 _ rfl
  have e1 := hc0 1 _ rfl
  have e2 := hc0 2 _ rfl
  have e3 := hc0 3 _ rfl
  have e4 := hc0 4 _ rfl
  have hz2 : w.heap.size < W0.heap.size := by omega
  have r3 : ∀ W, Below W0.heap.size W0 W → W.cell? ⟨w.heap.size, 3, none⟩ = some (.string s) := fun W h => (h.cell (p := ⟨_, _, none⟩) hz2).trans hs0
  have q0 : ∀ W, Below W0.heap.size W0 W → W.cell? ⟨w1.heap.size, 0, none⟩ = some (.int .i64 k1) := fun W h => (h.cell (p := ⟨_, _, none⟩) hz0).trans e0
  have q1 : ∀ W, Below W0.heap.size W0 W → W.cell? ⟨w1.heap.size, 1, none⟩ = some (.int .i64 n1) := fun W h => (h.cell (p := ⟨_, _, none⟩) hz0).trans e1
  have q2 : ∀ W, Below W0.heap.size W0 W → W.cell? ⟨w1.heap.size, 2, none⟩ = some (.int .i64 d1) := fun W h => (h.cell (p := ⟨_, _, none⟩) hz0).trans e2
  have q3 : ∀ W, Below W0.heap.size W0 W → W.cell? ⟨w1.heap.size, 3, none⟩ = some (.string t1) := fun W h => (h.cell (p := ⟨_, _, none⟩) hz0).trans e3
  have q4 : ∀ W, Below W0.heap.size W0 W → W.cell? ⟨w1.heap.size, 4, none⟩ = some (.slice none 0 0) := fun W h => (h.cell (p := ⟨_, _, none⟩) hz0).trans e4
  have HV := Lib.hid hv
  have hBd : Below W0.heap.size W0 W0.drew := Below.drew (Below.refl _ _)
  clear hc0 hv hz1 hle1 hc1 hf1 hb1 e0 e1 e2 e3 e4 hs0
  by_cases hw : k1 = 1 ∧ d1 = 1
  · obtain ⟨rfl, rfl⟩ := hw
    obtain ⟨hn0, hn1⟩ := readR_whole HV.out
    refine wp_region_any (by kernel_rfl) ?_
    try (change wpAny _ _ _ _ _ _ _ (World.drew _))
    refine wpAny_ready (rs := [0]) (by kernel_rfl) (by simp) ?_
    refine AllReady.cons rfl (fun K hK => ?_) AllReady.nil
    go_simp
    (refine hK _ _ ?_; clear hK K)
    refine wpAny_ready (rs := [1]) (by kernel_rfl) (by simp) ?_
    refine AllReady.cons rfl (fun K hK => ?_) AllReady.nil
    go_simp
    (refine hK _ _ ?_; clear hK K)
    refine wpAny_ready (rs := [2]) (by kernel_rfl) (by simp) ?_
    refine AllReady.cons rfl (fun K hK => ?_) AllReady.nil
    go_simp
    go_wp2_with (go_at_call 162; refine (c162 _ _ hs).mono ?_; rintro e w2 ⟨b, rfl, hr, hb2⟩; have hk2 : Below W0.heap.size W0 w2 := keepS hb2 (by assumption))
    cases b
    · skip
      refine wpAny_ready (rs := [3]) (by kernel_rfl) (by simp) ?_
      refine AllReady.cons rfl (fun K hK => ?_) AllReady.nil
      go_simp
      (refine hK _ _ ?_; clear hK K)
      refine wpAny_ready (rs := [4]) (by kernel_rfl) (by simp) ?_
      refine AllReady.cons rfl (fun K hK => ?_) AllReady.nil
      go_simp
      (refine hK _ _ ?_; clear hK K)
      refine wpAny_ready (rs := [5]) (by kernel_rfl) (by simp) ?_
      refine AllReady.cons rfl (fun K hK => ?_) AllReady.nil
      go_simp
      go_wp2_with (go_at_call 169; refine (c169 _ _ _ _ _ _).mono ?_; rintro e w2 ⟨b', rfl, hr', hb2⟩; obtain rfl : b' = true := hr'.2 ⟨rfl, rfl⟩; have hk2 : Below W0.heap.size W0 w2 := keepS hb2 (by assumption))
      refine wpAny_ready (rs := [6]) (by kernel_rfl) (by simp) ?_
      refine AllReady.cons rfl (fun K hK => ?_) AllReady.nil
      go_simp
      (refine hK _ _ ?_; clear hK K)
      refine wpAny_take (i := 9) (v := ?_) rfl (by kernel_rfl) (by kernel_rfl) (by kernel_rfl) (fun _ _ _ h => h) (Or.inl ⟨by rfl, ?_⟩) ?_
      rotate_left
      · intro w
        first | (go_simp; done) | (go_simp; with_reducible rfl)
      refine wpAny_ready (rs := [7, 10]) (by kernel_rfl) (by simp) ?_
      refine AllReady.cons rfl (fun K hK => ?_) ?_
      · skip
        go_simp
        (refine hK _ _ ?_; clear hK K)
        refine wpAny_ready (rs := [8, 10]) (by kernel_rfl) (by simp) ?_
        refine AllReady.cons rfl (fun K hK => ?_) ?_
        · skip
          go_simp
          go_wp2_with (go_at_call 223; refine (c223 _ _ _ hn0 hn1).mono ?_; rintro e w2 ⟨rfl, hb2⟩; have hk2 : Below W0.heap.size W0 w2 := keepS hb2 (by assumption))
          refine wpAny_ready (rs := [10]) (by kernel_rfl) (by simp) ?_
          refine AllReady.cons rfl (fun K hK => ?_) AllReady.nil
          go_simp
          (refine hK _ _ ?_; clear hK K)
          refine wpAny_ready (rs := [11]) (by kernel_rfl) (by simp) ?_
          refine AllReady.cons rfl (fun K hK => ?_) AllReady.nil
          go_simp
          (refine hK _ _ ?_; clear hK K)
          generalize ((plainS n1).toList == s.toList) = b3
          cases b3
          · skip
            refine wpAny_ready (rs := [12]) (by kernel_rfl) (by simp) ?_
            refine AllReady.cons rfl (fun K hK => ?_) AllReady.nil
            go_simp
            (refine hK _ _ ?_; clear hK K)
            refine wpAny_ready (rs := [13]) (by kernel_rfl) (by simp) ?_
            refine AllReady.cons rfl (fun K hK => ?_) AllReady.nil
            go_simp
            (refine hK _ _ ?_; clear hK K)
            refine wpAny_ready (rs := [14]) (by kernel_rfl) (by simp) ?_
            refine AllReady.cons rfl (fun K hK => ?_) AllReady.nil
            go_simp
            (refine hK _ _ ?_; clear hK K)
            refine wpAny_ready (rs := [15]) (by kernel_rfl) (by simp) ?_
            refine AllReady.cons rfl (fun K hK => ?_) AllReady.nil
            go_simp
            (refine hK _ _ ?_; clear hK K)
            refine wpAny_ready (rs := [16]) (by kernel_rfl) (by simp) ?_
            refine AllReady.cons rfl (fun K hK => ?_) AllReady.nil
            go_simp
            (refine hK _ _ ?_; clear hK K)
            refine wpAny_ready (rs := [17]) (by kernel_rfl) (by simp) ?_
            refine AllReady.cons rfl (fun K hK => ?_) AllReady.nil
            go_simp
            (refine hK _ _ ?_; clear hK K)
            refine wpAny_ready (rs := [18]) (by kernel_rfl) (by simp) ?_
            refine AllReady.cons rfl (fun K hK => ?_) AllReady.nil
            go_simp
            (refine hK _ _ ?_; clear hK K)
            refine wpAny_ready (rs := [19]) (by kernel_rfl) (by simp) ?_
            refine AllReady.cons rfl (fun K hK => ?_) AllReady.nil
            go_simp
            (refine hK _ _ ?_; clear hK K)
            refine wpAny_ready (rs := [20]) (by kernel_rfl) (by simp) ?_
            refine AllReady.cons rfl (fun K hK => ?_) AllReady.nil
            go_simp
            (refine hK _ _ ?_; clear hK K)
            refine wpAny_done (by kernel_rfl) ?_ _
            (go_wp2_with fail; go_ret; exact retB_mk _ trivial (below_via2 (by assumption) hB0 hB0.size))
          · skip
            refine wpAny_ready (rs := [12]) (by kernel_rfl) (by simp) ?_
            refine AllReady.cons rfl (fun K hK => ?_) AllReady.nil
            go_simp
            (refine hK _ _ ?_; clear hK K)
            refine wpAny_ready (rs := [13]) (by kernel_rfl) (by simp) ?_
            refine AllReady.cons rfl (fun K hK => ?_) AllReady.nil
            go_simp
            (refine hK _ _ ?_; clear hK K)
            refine wpAny_ready (rs := [14]) (by kernel_rfl) (by simp) ?_
            refine AllReady.cons rfl (fun K hK => ?_) AllReady.nil
            go_simp
            (refine hK _ _ ?_; clear hK K)
            refine wpAny_ready (rs := [15]) (by kernel_rfl) (by simp) ?_
            refine AllReady.cons rfl (fun K hK => ?_) AllReady.nil
            go_simp
            (refine hK _ _ ?_; clear hK K)
            refine wpAny_ready (rs := [16]) (by kernel_rfl) (by simp) ?_
            refine AllReady.cons rfl (fun K hK => ?_) AllReady.nil
            go_simp
            go_wp2_with (go_at_call 224; refine (c224 _ _ (by omega) (by omega)).mono ?_; rintro e w2 ⟨_, rfl, ⟨m, rfl⟩, rfl⟩)
            refine wpAny_ready (rs := [17]) (by kernel_rfl) (by simp) ?_
            refine AllReady.cons rfl (fun K hK => ?_) AllReady.nil
            go_simp
            (refine hK _ _ ?_; clear hK K)
            generalize decide (m < 1000000000) = b4
            cases b4
            · skip
              refine wpAny_ready (rs := [18]) (by kernel_rfl) (by simp) ?_
              refine AllReady.cons rfl (fun K hK => ?_) AllReady.nil
              go_simp
              (refine hK _ _ ?_; clear hK K)
              refine wpAny_ready (rs := [19]) (by kernel_rfl) (by simp) ?_
              refine AllReady.cons rfl (fun K hK => ?_) AllReady.nil
              go_simp
              (refine hK _ _ ?_; clear hK K)
              refine wpAny_ready (rs := [20]) (by kernel_rfl) (by simp) ?_
              refine AllReady.cons rfl (fun K hK => ?_) AllReady.nil
              go_simp
              (refine hK _ _ ?_; clear hK K)
              refine wpAny_done (by kernel_rfl) ?_ _
              (go_wp2_with fail; go_ret; exact retB_mk _ trivial (below_via2 (by assumption) hB0 hB0.size))
            · skip
              refine wpAny_ready (rs := [18]) (by kernel_rfl) (by simp) ?_
              refine AllReady.cons rfl (fun K hK => ?_) AllReady.nil
              go_simp
              (refine hK _ _ ?_; clear hK K)
              refine wpAny_ready (rs := [19]) (by kernel_rfl) (by simp) ?_
              refine AllReady.cons rfl (fun K hK => ?_) AllReady.nil
              go_simp
              (refine hK _ _ ?_; clear hK K)
              refine wpAny_ready (rs := [20]) (by kernel_rfl) (by simp) ?_
              refine AllReady.cons rfl (fun K hK => ?_) AllReady.nil
              go_simp
              (refine hK _ _ ?_; clear hK K)
              refine wpAny_done (by kernel_rfl) ?_ _
              (go_wp2_with fail; go_ret; exact retB_mk _ trivial (below_via2 (by assumption) hB0 hB0.size))
        refine AllReady.cons rfl (fun K hK => ?_) ?_
        · skip
          go_simp
          (refine hK _ _ ?_; clear hK K)
          refine wpAny_ready (rs := [8]) (by kernel_rfl) (by simp) ?_
          refine AllReady.cons rfl (fun K hK => ?_) AllReady.nil
          go_simp
          go_wp2_with (go_at_call 223; refine (c223 _ _ _ hn0 hn1).mono ?_; rintro e w2 ⟨rfl, hb2⟩; have hk2 : Below W0.heap.size W0 w2 := keepS hb2 (by assumption))
          refine wpAny_ready (rs := [11]) (by kernel_rfl) (by simp) ?_
          refine AllReady.cons rfl (fun K hK => ?_) AllReady.nil
          go_simp
          (refine hK _ _ ?_; clear hK K)
          generalize ((plainS n1).toList == s.toList) = b3
          cases b3
          · skip
            refine wpAny_ready (rs := [12]) (by kernel_rfl) (by simp) ?_
            refine AllReady.cons rfl (fun K hK => ?_) AllReady.nil
            go_simp
            (refine hK _ _ ?_; clear hK K)
            refine wpAny_ready (rs := [13]) (by kernel_rfl) (by simp) ?_
            refine AllReady.cons rfl (fun K hK => ?_) AllReady.nil
            go_simp
            (refine hK _ _ ?_; clear hK K)
            refine wpAny_ready (rs := [14]) (by kernel_rfl) (by simp) ?_
            refine AllReady.cons rfl (fun K hK => ?_) AllReady.nil
            go_simp
            (refine hK _ _ ?_; clear hK K)
            refine wpAny_ready (rs := [15]) (by kernel_rfl) (by simp) ?_
            refine AllReady.cons rfl (fun K hK => ?_) AllReady.nil
            go_simp
            (refine hK _ _ ?_; clear hK K)
            refine wpAny_ready (rs := [16]) (by kernel_rfl) (by simp) ?_
            refine AllReady.cons rfl (fun K hK => ?_) AllReady.nil
            go_simp
            (refine hK _ _ ?_; clear hK K)
            refine wpAny_ready (rs := [17]) (by kernel_rfl) (by simp) ?_
            refine AllReady.cons rfl (fun K hK => ?_) AllReady.nil
            go_simp
            (refine hK _ _ ?_; clear hK K)
            refine wpAny_ready (rs := [18]) (by kernel_rfl) (by simp) ?_
            refine AllReady.cons rfl (fun K hK => ?_) AllReady.nil
            go_simp
            (refine hK _ _ ?_; clear hK K)
            refine wpAny_ready (rs := [19]) (by kernel_rfl) (by simp) ?_
            refine AllReady.cons rfl (fun K hK => ?_) AllReady.nil
            go_simp
            (refine hK _ _ ?_; clear hK K)
            refine wpAny_ready (rs := [20]) (by kernel_rfl) (by simp) ?_
            refine AllReady.cons rfl (fun K hK => ?_) AllReady.nil
            go_simp
            (refine hK _ _ ?_; clear hK K)
            refine wpAny_done (by kernel_rfl) ?_ _
            (go_wp2_with fail; go_ret; exact retB_mk _ trivial (below_via2 (by assumption) hB0 hB0.size))
          · skip
            refine wpAny_ready (rs := [12]) (by kernel_rfl) (by simp) ?_
            refine AllReady.cons rfl (fun K hK => ?_) AllReady.nil
            go_simp
            (refine hK _ _ ?_; clear hK K)
            refine wpAny_ready (rs := [13]) (by kernel_rfl) (by simp) ?_
            refine AllReady.cons rfl (fun K hK => ?_) AllReady.nil
            go_simp
            (refine hK _ _ ?_; clear hK K)
            refine wpAny_ready (rs := [14]) (by kernel_rfl) (by simp) ?_
            refine AllReady.cons rfl (fun K hK => ?_) AllReady.nil
            go_simp
            (refine hK _ _ ?_; clear hK K)
            refine wpAny_ready (rs := [15]) (by kernel_rfl) (by simp) ?_
            refine AllReady.cons rfl (fun K hK => ?_) AllReady.nil
            go_simp
            (refine hK _ _ ?_; clear hK K)
            refine wpAny_ready (rs := [16]) (by kernel_rfl) (by simp) ?_
            refine AllReady.cons rfl (fun K hK => ?_) AllReady.nil
            go_simp
            go_wp2_with (go_at_call 224; refine (c224 _ _ (by omega) (by omega)).mono ?_; rintro e w2 ⟨_, rfl, ⟨m, rfl⟩, rfl⟩)
            refine wpAny_ready (rs := [17]) (by kernel_rfl) (by simp) ?_
            refine AllReady.cons rfl (fun K hK => ?_) AllReady.nil
            go_simp
            (refine hK _ _ ?_; clear hK K)
            generalize decide (m < 1000000000) = b4
            cases b4
            · skip
              refine wpAny_ready (rs := [18]) (by kernel_rfl) (by simp) ?_
              refine AllReady.cons rfl (fun K hK => ?_) AllReady.nil
              go_simp
              (refine hK _ _ ?_; clear hK K)
              refine wpAny_ready (rs := [19]) (by kernel_rfl) (by simp) ?_
              refine AllReady.cons rfl (fun K hK => ?_) AllReady.nil
              go_simp
              (refine hK _ _ ?_; clear hK K)
              refine wpAny_ready (rs := [20]) (by kernel_rfl) (by simp) ?_
              refine AllReady.cons rfl (fun K hK => ?_) AllReady.nil
              go_simp
              (refine hK _ _ ?_; clear hK K)
              refine wpAny_done (by kernel_rfl) ?_ _
              (go_wp2_with fail; go_ret; exact retB_mk _ trivial (below_via2 (by assumption) hB0 hB0.size))
            · skip
              refine wpAny_ready (rs := [18]) (by kernel_rfl) (by simp) ?_
              refine AllReady.cons rfl (fun K hK => ?_) AllReady.nil
              go_simp
              (refine hK _ _ ?_; clear hK K)
              refine wpAny_ready (rs := [19]) (by kernel_rfl) (by simp) ?_
              refine AllReady.cons rfl (fun K hK => ?_) AllReady.nil
              go_simp
              (refine hK _ _ ?_; clear hK K)
              refine wpAny_ready (rs := [20]) (by kernel_rfl) (by simp) ?_
              refine AllReady.cons rfl (fun K hK => ?_) AllReady.nil
              go_simp
              (refine hK _ _ ?_; clear hK K)
              refine wpAny_done (by kernel_rfl) ?_ _
              (go_wp2_with fail; go_ret; exact retB_mk _ trivial (below_via2 (by assumption) hB0 hB0.size))
        exact AllReady.nil
      refine AllReady.cons rfl (fun K hK => ?_) ?_
      · skip
        go_simp
        (refine hK _ _ ?_; clear hK K)
        refine wpAny_ready (rs := [7]) (by kernel_rfl) (by simp) ?_
        refine AllReady.cons rfl (fun K hK => ?_) AllReady.nil
        go_simp
        (refine hK _ _ ?_; clear hK K)
        refine wpAny_ready (rs := [8]) (by kernel_rfl) (by simp) ?_
        refine AllReady.cons rfl (fun K hK => ?_) AllReady.nil
        go_simp
        go_wp2_with (go_at_call 223; refine (c223 _ _ _ hn0 hn1).mono ?_; rintro e w2 ⟨rfl, hb2⟩; have hk2 : Below W0.heap.size W0 w2 := keepS hb2 (by assumption))
        refine wpAny_ready (rs := [11]) (by kernel_rfl) (by simp) ?_
        refine AllReady.cons rfl (fun K hK => ?_) AllReady.nil
        go_simp
        (refine hK _ _ ?_; clear hK K)
        generalize ((plainS n1).toList == s.toList) = b3
        cases b3
        · skip
          refine wpAny_ready (rs := [12]) (by kernel_rfl) (by simp) ?_
          refine AllReady.cons rfl (fun K hK => ?_) AllReady.nil
          go_simp
          (refine hK _ _ ?_; clear hK K)
          refine wpAny_ready (rs := [13]) (by kernel_rfl) (by simp) ?_
          refine AllReady.cons rfl (fun K hK => ?_) AllReady.nil
          go_simp
          (refine hK _ _ ?_; clear hK K)
          refine wpAny_ready (rs := [14]) (by kernel_rfl) (by simp) ?_
          refine AllReady.cons rfl (fun K hK => ?_) AllReady.nil
          go_simp
          (refine hK _ _ ?_; clear hK K)
          refine wpAny_ready (rs := [15]) (by kernel_rfl) (by simp) ?_
          refine AllReady.cons rfl (fun K hK => ?_) AllReady.nil
          go_simp
          (refine hK _ _ ?_; clear hK K)
          refine wpAny_ready (rs := [16]) (by kernel_rfl) (by simp) ?_
          refine AllReady.cons rfl (fun K hK => ?_) AllReady.nil
          go_simp
          (refine hK _ _ ?_; clear hK K)
          refine wpAny_ready (rs := [17]) (by kernel_rfl) (by simp) ?_
          refine AllReady.cons rfl (fun K hK => ?_) AllReady.nil
          go_simp
          (refine hK _ _ ?_; clear hK K)
          refine wpAny_ready (rs := [18]) (by kernel_rfl) (by simp) ?_
          refine AllReady.cons rfl (fun K hK => ?_) AllReady.nil
          go_simp
          (refine hK _ _ ?_; clear hK K)
          refine wpAny_ready (rs := [19]) (by kernel_rfl) (by simp) ?_
          refine AllReady.cons rfl (fun K hK => ?_) AllReady.nil
          go_simp
          (refine hK _ _ ?_; clear hK K)
          refine wpAny_ready (rs := [20]) (by kernel_rfl) (by simp) ?_
          refine AllReady.cons rfl (fun K hK => ?_) AllReady.nil
          go_simp
          (refine hK _ _ ?_; clear hK K)
          refine wpAny_done (by kernel_rfl) ?_ _
          (go_wp2_with fail; go_ret; exact retB_mk _ trivial (below_via2 (by assumption) hB0 hB0.size))
        · skip
          refine wpAny_ready (rs := [12]) (by kernel_rfl) (by simp) ?_
          refine AllReady.cons rfl (fun K hK => ?_) AllReady.nil
          go_simp
          (refine hK _ _ ?_; clear hK K)
          refine wpAny_ready (rs := [13]) (by kernel_rfl) (by simp) ?_
          refine AllReady.cons rfl (fun K hK => ?_) AllReady.nil
          go_simp
          (refine hK _ _ ?_; clear hK K)
          refine wpAny_ready (rs := [14]) (by kernel_rfl) (by simp) ?_
          refine AllReady.cons rfl (fun K hK => ?_) AllReady.nil
          go_simp
          (refine hK _ _ ?_; clear hK K)
          refine wpAny_ready (rs := [15]) (by kernel_rfl) (by simp) ?_
          refine AllReady.cons rfl (fun K hK => ?_) AllReady.nil
          go_simp
          (refine hK _ _ ?_; clear hK K)
          refine wpAny_ready (rs := [16]) (by kernel_rfl) (by simp) ?_
          refine AllReady.cons rfl (fun K hK => ?_) AllReady.nil
          go_simp
          go_wp2_with (go_at_call 224; refine (c224 _ _ (by omega) (by omega)).mono ?_; rintro e w2 ⟨_, rfl, ⟨m, rfl⟩, rfl⟩)
          refine wpAny_ready (rs := [17]) (by kernel_rfl) (by simp) ?_
          refine AllReady.cons rfl (fun K hK => ?_) AllReady.nil
          go_simp
          (refine hK _ _ ?_; clear hK K)
          generalize decide (m < 1000000000) = b4
          cases b4
          · skip
            refine wpAny_ready (rs := [18]) (by kernel_rfl) (by simp) ?_
            refine AllReady.cons rfl (fun K hK => ?_) AllReady.nil
            go_simp
            (refine hK _ _ ?_; clear hK K)
            refine wpAny_ready (rs := [19]) (by kernel_rfl) (by simp) ?_
            refine AllReady.cons rfl (fun K hK => ?_) AllReady.nil
            go_simp
            (refine hK _ _ ?_; clear hK K)
            refine wpAny_ready (rs := [20]) (by kernel_rfl) (by simp) ?_
            refine AllReady.cons rfl (fun K hK => ?_) AllReady.nil
            go_simp
            (refine hK _ _ ?_; clear hK K)
            refine wpAny_done (by kernel_rfl) ?_ _
            (go_wp2_with fail; go_ret; exact retB_mk _ trivial (below_via2 (by assumption) hB0 hB0.size))
          · skip
            refine wpAny_ready (rs := [18]) (by kernel_rfl) (by simp) ?_
            refine AllReady.cons rfl (fun K hK => ?_) AllReady.nil
            go_simp
            (refine hK _ _ ?_; clear hK K)
            refine wpAny_ready (rs := [19]) (by kernel_rfl) (by simp) ?_
            refine AllReady.cons rfl (fun K hK => ?_) AllReady.nil
            go_simp
            (refine hK _ _ ?_; clear hK K)
            refine wpAny_ready (rs := [20]) (by kernel_rfl) (by simp) ?_
            refine AllReady.cons rfl (fun K hK => ?_) AllReady.nil
            go_simp
            (refine hK _ _ ?_; clear hK K)
            refine wpAny_done (by kernel_rfl) ?_ _
            (go_wp2_with fail; go_ret; exact retB_mk _ trivial (below_via2 (by assumption) hB0 hB0.size))
      exact AllReady.nil
    · skip
      refine wpAny_ready (rs := [3]) (by kernel_rfl) (by simp) ?_
      refine AllReady.cons rfl (fun K hK => ?_) AllReady.nil
      go_simp
      (refine hK _ _ ?_; clear hK K)
      refine wpAny_ready (rs := [4]) (by kernel_rfl) (by simp) ?_
      refine AllReady.cons rfl (fun K hK => ?_) AllReady.nil
      go_simp
      (refine hK _ _ ?_; clear hK K)
      refine wpAny_ready (rs := [5]) (by kernel_rfl) (by simp) ?_
      refine AllReady.cons rfl (fun K hK => ?_) AllReady.nil
      go_simp
      (refine hK _ _ ?_; clear hK K)
      refine wpAny_ready (rs := [6]) (by kernel_rfl) (by simp) ?_
      refine AllReady.cons rfl (fun K hK => ?_) AllReady.nil
      go_simp
      (refine hK _ _ ?_; clear hK K)
      refine wpAny_take (i := 7) (v := undef) rfl (by kernel_rfl) (by kernel_rfl) (by kernel_rfl) (fun _ _ _ h => h) (Or.inr ⟨by rfl, rfl⟩) ?_
      refine wpAny_take (i := 8) (v := undef) rfl (by kernel_rfl) (by kernel_rfl) (by kernel_rfl) (fun _ _ _ h => h) (Or.inr ⟨by rfl, rfl⟩) ?_
      refine wpAny_ready (rs := [9]) (by kernel_rfl) (by simp) ?_
      refine AllReady.cons rfl (fun K hK => ?_) AllReady.nil
      go_simp
      (refine hK _ _ ?_; clear hK K)
      refine wpAny_ready (rs := [10]) (by kernel_rfl) (by simp) ?_
      refine AllReady.cons rfl (fun K hK => ?_) AllReady.nil
      go_simp
      (refine hK _ _ ?_; clear hK K)
      refine wpAny_ready (rs := [11]) (by kernel_rfl) (by simp) ?_
      refine AllReady.cons rfl (fun K hK => ?_) AllReady.nil
      go_simp
      (refine hK _ _ ?_; clear hK K)
      refine wpAny_ready (rs := [12]) (by kernel_rfl) (by simp) ?_
      refine AllReady.cons rfl (fun K hK => ?_) AllReady.nil
      go_simp
      (refine hK _ _ ?_; clear hK K)
      refine wpAny_ready (rs := [13]) (by kernel_rfl) (by simp) ?_
      refine AllReady.cons rfl (fun K hK => ?_) AllReady.nil
      go_simp
      (refine hK _ _ ?_; clear hK K)
      refine wpAny_ready (rs := [14]) (by kernel_rfl) (by simp) ?_
      refine AllReady.cons rfl (fun K hK => ?_) AllReady.nil
      go_simp
      (refine hK _ _ ?_; clear hK K)
      refine wpAny_ready (rs := [15]) (by kernel_rfl) (by simp) ?_
      refine AllReady.cons rfl (fun K hK => ?_) AllReady.nil
      go_simp
      (refine hK _ _ ?_; clear hK K)
      refine wpAny_ready (rs := [16]) (by kernel_rfl) (by simp) ?_
      refine AllReady.cons rfl (fun K hK => ?_) AllReady.nil
      go_simp
      (refine hK _ _ ?_; clear hK K)
      refine wpAny_ready (rs := [17]) (by kernel_rfl) (by simp) ?_
      refine AllReady.cons rfl (fun K hK => ?_) AllReady.nil
      go_simp
      (refine hK _ _ ?_; clear hK K)
      refine wpAny_ready (rs := [18]) (by kernel_rfl) (by simp) ?_
      refine AllReady.cons rfl (fun K hK => ?_) AllReady.nil
      go_simp
      (refine hK _ _ ?_; clear hK K)
      refine wpAny_ready (rs := [19]) (by kernel_rfl) (by simp) ?_
      refine AllReady.cons rfl (fun K hK => ?_) AllReady.nil
      go_simp
      (refine hK _ _ ?_; clear hK K)
      refine wpAny_ready (rs := [20]) (by kernel_rfl) (by simp) ?_
      refine AllReady.cons rfl (fun K hK => ?_) AllReady.nil
      go_simp
      (refine hK _ _ ?_; clear hK K)
      refine wpAny_done (by kernel_rfl) ?_ _
      (go_wp2_with fail; go_ret; exact retB_mk _ trivial (below_via2 (by assumption) hB0 hB0.size))
  · have HW := Lib.hid hw
    clear hw
    refine wp_region_any (by kernel_rfl) ?_
    try (change wpAny _ _ _ _ _ _ _ (World.drew _))
    refine wpAny_ready (rs := [0]) (by kernel_rfl) (by simp) ?_
    refine AllReady.cons rfl (fun K hK => ?_) AllReady.nil
    go_simp
    (refine hK _ _ ?_; clear hK K)
    refine wpAny_ready (rs := [1]) (by kernel_rfl) (by simp) ?_
    refine AllReady.cons rfl (fun K hK => ?_) AllReady.nil
    go_simp
    (refine hK _ _ ?_; clear hK K)
    refine wpAny_ready (rs := [2]) (by kernel_rfl) (by simp) ?_
    refine AllReady.cons rfl (fun K hK => ?_) AllReady.nil
    go_simp
    go_wp2_with (go_at_call 162; refine (c162 _ _ hs).mono ?_; rintro e w2 ⟨b, rfl, hr, hb2⟩; have hk2 : Below W0.heap.size W0 w2 := keepS hb2 (by assumption))
    cases b
    · skip
      refine wpAny_ready (rs := [3]) (by kernel_rfl) (by simp) ?_
      refine AllReady.cons rfl (fun K hK => ?_) AllReady.nil
      go_simp
      (refine hK _ _ ?_; clear hK K)
      refine wpAny_ready (rs := [4]) (by kernel_rfl) (by simp) ?_
      refine AllReady.cons rfl (fun K hK => ?_) AllReady.nil
      go_simp
      (refine hK _ _ ?_; clear hK K)
      refine wpAny_ready (rs := [5]) (by kernel_rfl) (by simp) ?_
      refine AllReady.cons rfl (fun K hK => ?_) AllReady.nil
      go_simp
      go_wp2_with (go_at_call 169; refine (c169 _ _ _ _ _ _).mono ?_; rintro e w2 ⟨b', rfl, hr', hb2⟩; obtain rfl : b' = false := (by cases b' with | false => rfl | true => exact absurd (hr'.1 rfl) HW.out); have hk2 : Below W0.heap.size W0 w2 := keepS hb2 (by assumption))
      refine wpAny_ready (rs := [6]) (by kernel_rfl) (by simp) ?_
      refine AllReady.cons rfl (fun K hK => ?_) AllReady.nil
      go_simp
      (refine hK _ _ ?_; clear hK K)
      refine wpAny_take (i := 7) (v := undef) rfl (by kernel_rfl) (by kernel_rfl) (by kernel_rfl) (fun _ _ _ h => h) (Or.inr ⟨by rfl, rfl⟩) ?_
      refine wpAny_take (i := 8) (v := undef) rfl (by kernel_rfl) (by kernel_rfl) (by kernel_rfl) (fun _ _ _ h => h) (Or.inr ⟨by rfl, rfl⟩) ?_
      refine wpAny_ready (rs := [9]) (by kernel_rfl) (by simp) ?_
      refine AllReady.cons rfl (fun K hK => ?_) AllReady.nil
      go_simp
      (refine hK _ _ ?_; clear hK K)
      refine wpAny_ready (rs := [10]) (by kernel_rfl) (by simp) ?_
      refine AllReady.cons rfl (fun K hK => ?_) AllReady.nil
      go_simp
      (refine hK _ _ ?_; clear hK K)
      refine wpAny_ready (rs := [11]) (by kernel_rfl) (by simp) ?_
      refine AllReady.cons rfl (fun K hK => ?_) AllReady.nil
      go_simp
      (refine hK _ _ ?_; clear hK K)
      refine wpAny_ready (rs := [12]) (by kernel_rfl) (by simp) ?_
      refine AllReady.cons rfl (fun K hK => ?_) AllReady.nil
      go_simp
      (refine hK _ _ ?_; clear hK K)
      refine wpAny_ready (rs := [13]) (by kernel_rfl) (by simp) ?_
      refine AllReady.cons rfl (fun K hK => ?_) AllReady.nil
      go_simp
      (refine hK _ _ ?_; clear hK K)
      refine wpAny_ready (rs := [14]) (by kernel_rfl) (by simp) ?_
      refine AllReady.cons rfl (fun K hK => ?_) AllReady.nil
      go_simp
      (refine hK _ _ ?_; clear hK K)
      refine wpAny_ready (rs := [15]) (by kernel_rfl) (by simp) ?_
      refine AllReady.cons rfl (fun K hK => ?_) AllReady.nil
      go_simp
      (refine hK _ _ ?_; clear hK K)
      refine wpAny_ready (rs := [16]) (by kernel_rfl) (by simp) ?_
      refine AllReady.cons rfl (fun K hK => ?_) AllReady.nil
      go_simp
      (refine hK _ _ ?_; clear hK K)
      refine wpAny_ready (rs := [17]) (by kernel_rfl) (by simp) ?_
      refine AllReady.cons rfl (fun K hK => ?_) AllReady.nil
      go_simp
      (refine hK _ _ ?_; clear hK K)
      refine wpAny_ready (rs := [18]) (by kernel_rfl) (by simp) ?_
      refine AllReady.cons rfl (fun K hK => ?_) AllReady.nil
      go_simp
      (refine hK _ _ ?_; clear hK K)
      refine wpAny_ready (rs := [19]) (by kernel_rfl) (by simp) ?_
      refine AllReady.cons rfl (fun K hK => ?_) AllReady.nil
      go_simp
      (refine hK _ _ ?_; clear hK K)
      refine wpAny_ready (rs := [20]) (by kernel_rfl) (by simp) ?_
      refine AllReady.cons rfl (fun K hK => ?_) AllReady.nil
      go_simp
      (refine hK _ _ ?_; clear hK K)
      refine wpAny_done (by kernel_rfl) ?_ _
      (go_wp2_with fail; go_ret; exact retB_mk _ trivial (below_via2 (by assumption) hB0 hB0.size))
    · skip
      refine wpAny_ready (rs := [3]) (by kernel_rfl) (by simp) ?_
      refine AllReady.cons rfl (fun K hK => ?_) AllReady.nil
      go_simp
      (refine hK _ _ ?_; clear hK K)
      refine wpAny_ready (rs := [4]) (by kernel_rfl) (by simp) ?_
      refine AllReady.cons rfl (fun K hK => ?_) AllReady.nil
      go_simp
      (refine hK _ _ ?_; clear hK K)
      refine wpAny_ready (rs := [5]) (by kernel_rfl) (by simp) ?_
      refine AllReady.cons rfl (fun K hK => ?_) AllReady.nil
      go_simp
      (refine hK _ _ ?_; clear hK K)
      refine wpAny_ready (rs := [6]) (by kernel_rfl) (by simp) ?_
      refine AllReady.cons rfl (fun K hK => ?_) AllReady.nil
      go_simp
      (refine hK _ _ ?_; clear hK K)
      refine wpAny_take (i := 7) (v := undef) rfl (by kernel_rfl) (by kernel_rfl) (by kernel_rfl) (fun _ _ _ h => h) (Or.inr ⟨by rfl, rfl⟩) ?_
      refine wpAny_take (i := 8) (v := undef) rfl (by kernel_rfl) (by kernel_rfl) (by kernel_rfl) (fun _ _ _ h => h) (Or.inr ⟨by rfl, rfl⟩) ?_
      refine wpAny_ready (rs := [9]) (by kernel_rfl) (by simp) ?_
      refine AllReady.cons rfl (fun K hK => ?_) AllReady.nil
      go_simp
      (refine hK _ _ ?_; clear hK K)
      refine wpAny_ready (rs := [10]) (by kernel_rfl) (by simp) ?_
      refine AllReady.cons rfl (fun K hK => ?_) AllReady.nil
      go_simp
      (refine hK _ _ ?_; clear hK K)
      refine wpAny_ready (rs := [11]) (by kernel_rfl) (by simp) ?_
      refine AllReady.cons rfl (fun K hK => ?_) AllReady.nil
      go_simp
      (refine hK _ _ ?_; clear hK K)
      refine wpAny_ready (rs := [12]) (by kernel_rfl) (by simp) ?_
      refine AllReady.cons rfl (fun K hK => ?_) AllReady.nil
      go_simp
      (refine hK _ _ ?_; clear hK K)
      refine wpAny_ready (rs := [13]) (by kernel_rfl) (by simp) ?_
      refine AllReady.cons rfl (fun K hK => ?_) AllReady.nil
      go_simp
      (refine hK _ _ ?_; clear hK K)
      refine wpAny_ready (rs := [14]) (by kernel_rfl) (by simp) ?_
      refine AllReady.cons rfl (fun K hK => ?_) AllReady.nil
      go_simp
      (refine hK _ _ ?_; clear hK K)
      refine wpAny_ready (rs := [15]) (by kernel_rfl) (by simp) ?_
      refine AllReady.cons rfl (fun K hK => ?_) AllReady.nil
      go_simp
      (refine hK _ _ ?_; clear hK K)
      refine wpAny_ready (rs := [16]) (by kernel_rfl) (by simp) ?_
      refine AllReady.cons rfl (fun K hK => ?_) AllReady.nil
      go_simp
      (refine hK _ _ ?_; clear hK K)
      refine wpAny_ready (rs := [17]) (by kernel_rfl) (by simp) ?_
      refine AllReady.cons rfl (fun K hK => ?_) AllReady.nil
      go_simp
      (refine hK _ _ ?_; clear hK K)
      refine wpAny_ready (rs := [18]) (by kernel_rfl) (by simp) ?_
      refine AllReady.cons rfl (fun K hK => ?_) AllReady.nil
      go_simp
      (refine hK _ _ ?_; clear hK K)
      refine wpAny_ready (rs := [19]) (by kernel_rfl) (by simp) ?_
      refine AllReady.cons rfl (fun K hK => ?_) AllReady.nil
      go_simp
      (refine hK _ _ ?_; clear hK K)
      refine wpAny_ready (rs := [20]) (by kernel_rfl) (by simp) ?_
      refine AllReady.cons rfl (fun K hK => ?_) AllReady.nil
      go_simp
      (refine hK _ _ ?_; clear hK K)
      refine wpAny_done (by kernel_rfl) ?_ _
      (go_wp2_with fail; go_ret; exact retB_mk _ trivial (below_via2 (by assumption) hB0 hB0.size))
theorem c144_other (k n0 d0 : Int) (s : ByteArray) (w : World) (hk : k ≠ 2) : Calls Tryz.prog 144 #[.agg #[.int .i64 k, .int .i64 n0, .int .i64 d0, .string s, .slice none 0 0]] w (RetB w fun b => b = true ↔ (k = 1 ∨ k = 3)) := by
  have hk2 : (k == 2) = false := by simpa using hk
  by_cases h1 : k = 1
  · subst h1
    go_enter Tryz.func144, Tryz.ntmps144
    go_wp2
    go_ret
    exact retB_mk _ (by simp) (by repeat (first | (with_reducible exact Below.refl _ _) | (with_reducible assumption) | ((with_reducible refine Below.alloc ?_ ?_ _); rotate_left; focus (first | exact Nat.le_refl _ | omega | (simp; done) | (simp; omega))) | ((with_reducible refine Below.setCell ?_ ?_ _); rotate_left; focus (first | exact Nat.le_refl _ | omega | (simp; done) | (simp; omega))) | (with_reducible refine Below.drew ?_) | (with_reducible refine below_drewN ?_ _) | ((with_reducible refine below_via (by assumption) ?_ ?_); focus (first | exact Nat.le_refl _ | omega | (simp; done) | (simp; omega)))))
  · have hk1 : (k == 1) = false := by simpa using h1
    by_cases h3 : k = 3
    · subst h3
      go_enter Tryz.func144, Tryz.ntmps144
      go_wp2
      go_ret
      exact retB_mk _ (by simp) (by repeat (first | (with_reducible exact Below.refl _ _) | (with_reducible assumption) | ((with_reducible refine Below.alloc ?_ ?_ _); rotate_left; focus (first | exact Nat.le_refl _ | omega | (simp; done) | (simp; omega))) | ((with_reducible refine Below.setCell ?_ ?_ _); rotate_left; focus (first | exact Nat.le_refl _ | omega | (simp; done) | (simp; omega))) | (with_reducible refine Below.drew ?_) | (with_reducible refine below_drewN ?_ _) | ((with_reducible refine below_via (by assumption) ?_ ?_); focus (first | exact Nat.le_refl _ | omega | (simp; done) | (simp; omega)))))
    · have hk3 : (k == 3) = false := by simpa using h3
      have H1 := Lib.hid h1
      have H3 := Lib.hid h3
      clear h1 h3 hk
      go_enter Tryz.func144, Tryz.ntmps144
      go_wp2
      go_ret
      exact retB_mk _ ⟨fun h => (nomatch h), fun h => h.elim (fun h => absurd h H1.out) (fun h => absurd h H3.out)⟩ (by repeat (first | (with_reducible exact Below.refl _ _) | (with_reducible assumption) | ((with_reducible refine Below.alloc ?_ ?_ _); rotate_left; focus (first | exact Nat.le_refl _ | omega | (simp; done) | (simp; omega))) | ((with_reducible refine Below.setCell ?_ ?_ _); rotate_left; focus (first | exact Nat.le_refl _ | omega | (simp; done) | (simp; omega))) | (with_reducible refine Below.drew ?_) | (with_reducible refine below_drewN ?_ _) | ((with_reducible refine below_via (by assumption) ?_ ?_); focus (first | exact Nat.le_refl _ | omega | (simp; done) | (simp; omega)))))
def TextualR (k n d : Int) (b : Bool) : Prop := b = true → k = 2 ∨ k = 3 ∨ (k = 1 ∧ d = 1 ∧ -1000000 < n ∧ n < 1000000)
theorem c148 (k n d : Int) (s : ByteArray) (w : World) (hs : s.size ≤ 9223372036854775807) : Calls Tryz.prog 148 #[.agg #[.int .i64 k, .int .i64 n, .int .i64 d, .string s, .slice none 0 0]] w (RetB w (TextualR k n d)) := by
  by_cases h2 : k = 2
  · subst h2
    go_enter Tryz.func148, Tryz.ntmps148
    go_wp2_with (first | (go_at_call 151; refine (c151 _ _ hs).mono ?_; rintro e w1 ⟨b, rfl, hr, hb1⟩; obtain ⟨hc1, hf1, hz1⟩ := bcell hb1; have hle1 := hb1.size; try have hs1 : w.heap.size < w1.heap.size := hz1 _ (by first | (simp; done) | (simp; omega) | omega); try have hs2 : w.heap.size + 1 < w1.heap.size := hz1 _ (by first | (simp; done) | (simp; omega) | omega); try have hs3 : w.heap.size + 1 + 1 < w1.heap.size := hz1 _ (by first | (simp; done) | (simp; omega) | omega)) | (go_at_call 183; refine (c183 _ _ _ _ _).mono ?_; rintro e w1 ⟨b, rfl, hr, hb1⟩; obtain ⟨hc1, hf1, hz1⟩ := bcell hb1; have hle1 := hb1.size; try have hs1 : w.heap.size < w1.heap.size := hz1 _ (by first | (simp; done) | (simp; omega) | omega); try have hs2 : w.heap.size + 1 < w1.heap.size := hz1 _ (by first | (simp; done) | (simp; omega) | omega); try have hs3 : w.heap.size + 1 + 1 < w1.heap.size := hz1 _ (by first | (simp; done) | (simp; omega) | omega)))
    all_goals go_ret
    all_goals exact retB_mk _ (fun _ => .inl rfl) (by repeat (first | (with_reducible exact Below.refl _ _) | (with_reducible assumption) | ((with_reducible refine Below.alloc ?_ ?_ _); rotate_left; focus (first | exact Nat.le_refl _ | omega | (simp; done) | (simp; omega))) | ((with_reducible refine Below.setCell ?_ ?_ _); rotate_left; focus (first | exact Nat.le_refl _ | omega | (simp; done) | (simp; omega))) | (with_reducible refine Below.drew ?_) | (with_reducible refine below_drewN ?_ _) | ((with_reducible refine below_via (by assumption) ?_ ?_); focus (first | exact Nat.le_refl _ | omega | (simp; done) | (simp; omega)))))
  · have hk2 : (k == 2) = false := by simpa using h2
    by_cases h3 : k = 3
    · subst h3
      go_enter Tryz.func148, Tryz.ntmps148
      go_wp2
      go_ret
      exact retB_mk _ (fun _ => .inr (.inl rfl)) (by repeat (first | (with_reducible exact Below.refl _ _) | (with_reducible assumption) | ((with_reducible refine Below.alloc ?_ ?_ _); rotate_left; focus (first | exact Nat.le_refl _ | omega | (simp; done) | (simp; omega))) | ((with_reducible refine Below.setCell ?_ ?_ _); rotate_left; focus (first | exact Nat.le_refl _ | omega | (simp; done) | (simp; omega))) | (with_reducible refine Below.drew ?_) | (with_reducible refine below_drewN ?_ _) | ((with_reducible refine below_via (by assumption) ?_ ?_); focus (first | exact Nat.le_refl _ | omega | (simp; done) | (simp; omega)))))
    · have hk3 : (k == 3) = false := by simpa using h3
      go_enter Tryz.func148, Tryz.ntmps148
      go_wp2_with (go_at_call 183; refine (c183 _ _ _ _ _).mono ?_; rintro e w1 ⟨b, rfl, hr, hb1⟩; obtain ⟨hc1, hf1, hz1⟩ := bcell hb1; have hle1 := hb1.size; try have hs1 : w.heap.size < w1.heap.size := hz1 _ (by first | (simp; done) | (simp; omega) | omega); try have hs2 : w.heap.size + 1 < w1.heap.size := hz1 _ (by first | (simp; done) | (simp; omega) | omega); try have hs3 : w.heap.size + 1 + 1 < w1.heap.size := hz1 _ (by first | (simp; done) | (simp; omega) | omega))
      go_ret
      exact retB_mk _ (fun h => .inr (.inr (hr h))) (by repeat (first | (with_reducible exact Below.refl _ _) | (with_reducible assumption) | ((with_reducible refine Below.alloc ?_ ?_ _); rotate_left; focus (first | exact Nat.le_refl _ | omega | (simp; done) | (simp; omega))) | ((with_reducible refine Below.setCell ?_ ?_ _); rotate_left; focus (first | exact Nat.le_refl _ | omega | (simp; done) | (simp; omega))) | (with_reducible refine Below.drew ?_) | (with_reducible refine below_drewN ?_ _) | ((with_reducible refine below_via (by assumption) ?_ ?_); focus (first | exact Nat.le_refl _ | omega | (simp; done) | (simp; omega)))))
end Go.Proofs.YtpahhejkpdkjmaaGreatDoor
