/- The law FnMean. -/
import Derived.Test.YtkhgaenffnoimaaGreatDoorMF
set_option linter.unusedSimpArgs false
set_option linter.unusedVariables false
namespace Go.Proofs.YtkhgaenffnoimaaGreatDoor
open Go.RowKit FL
attribute [local go_sem] run_store_float as64
theorem enters9 (args : Array Value) (W : World) : (callFunc 9 args).run Tryz.prog W = .ok (.enter 9 args) W := by simp [go_sem]
theorem enters11 (args : Array Value) (W : World) : (callFunc 11 args).run Tryz.prog W = .ok (.enter 11 args) W := by simp [go_sem]
theorem enters12 (args : Array Value) (W : World) : (callFunc 12 args).run Tryz.prog W = .ok (.enter 12 args) W := by simp [go_sem]
/-- ask of the column of a list, behind the table's block. -/
theorem askM (F b : Nat) (ks : List Int) (A : Option Addr) (c B : Nat) (w : World) (hl : ks.length ≤ 120) (h0 : 0 < ks.length) (hkk : ∀ k, k ∈ ks → -9999 ≤ k ∧ k ≤ 9999) (hx : ColB B w A 5 (ks.map fun k => (vN k).cells))
    (hent : ∀ (args : Array Value) (W : World), (callFunc F args).run Tryz.prog W = .ok (.enter F args) W)
    (hF : ∀ W g1 c1 A' c', MRow W g1 A' ks.length c' (ks.map fun k => (iN k).cells) → Calls Tryz.prog F #[.slice (some ⟨g1, 0, none⟩) 1 c1] W (Ret W (.agg #[.int .i64 1, .float .f64 b, .string ⟨#[]⟩, .slice none 0 0]))) :
    Calls Tryz.prog 8 #[.func (.func F) #[] #[], .slice (some ⟨w.heap.size, 0, none⟩) 1 1] (w.alloc (.cells #[.int .i64 5, .int .i64 0, .int .i64 0, .string ⟨#[]⟩, .slice A ks.length c] 32)) (Ret (w.alloc (.cells #[.int .i64 5, .int .i64 0, .int .i64 0, .string ⟨#[]⟩, .slice A ks.length c] 32)) (.agg #[.int .i64 1, .float .f64 b, .string ⟨#[]⟩, .slice none 0 0])) :=
  c8M F b ks A c w.heap.size _ hl h0 hkk (hx.col.below (by repeat (first | (with_reducible exact Below.refl _ _) | (with_reducible assumption) | ((with_reducible refine Below.alloc ?_ ?_ _); rotate_left; focus (first | exact Nat.le_refl _ | omega | (simp; done) | (simp; omega))) | ((with_reducible refine Below.setCell ?_ ?_ _); rotate_left; focus (first | exact Nat.le_refl _ | omega | (simp; done) | (simp; omega))) | (with_reducible refine Below.drew ?_) | (with_reducible refine below_drewN ?_ _) | ((with_reducible refine below_via (by assumption) ?_ ?_); focus (first | exact Nat.le_refl _ | omega | (simp; done) | (simp; omega)))))) (by simp) (by simp [go_sem]) (by simp [go_sem]) (by simp [go_sem]) (by simp [go_sem]) (by simp [go_sem]) hent hF
theorem h9 (ks : List Int) (m : Int) (hl : ks.length ≤ 120) (h0 : 0 < ks.length) (hkk : ∀ k, k ∈ ks → -9999 ≤ k ∧ k ≤ 9999) (hm : (ks.length : Int) * m = 4 * ks.sum) (hmb : m.natAbs ≤ 100000) :
    ∀ W g1 c1 A' c', MRow W g1 A' ks.length c' (ks.map fun k => (iN k).cells) → Calls Tryz.prog 9 #[.slice (some ⟨g1, 0, none⟩) 1 c1] W (Ret W (.agg #[.int .i64 1, .float .f64 (F16 (4 * m)), .string ⟨#[]⟩, .slice none 0 0])) := fun W g1 c1 A' c' h =>
  c9M (F16 (4 * m)) ks A' ks.length c' g1 c1 W hl h0 rfl hkk h fun A c L1 L2 B L e p W h1 h2 => c47M ks A ks.length c L1 L2 B L e m (.pointer p) W hl h0 rfl hkk h1 h2 hm hmb
theorem h11 (ks : List Int) (hl : ks.length ≤ 120) (h0 : 0 < ks.length) (hkk : ∀ k, k ∈ ks → -9999 ≤ k ∧ k ≤ 9999) :
    ∀ W g1 c1 A' c', MRow W g1 A' ks.length c' (ks.map fun k => (iN k).cells) → Calls Tryz.prog 11 #[.slice (some ⟨g1, 0, none⟩) 1 c1] W (Ret W (.agg #[.int .i64 1, .float .f64 (floatOfInt FloatKind.f64 (ks.length : Int)), .string ⟨#[]⟩, .slice none 0 0])) := fun W g1 c1 A' c' h =>
  c11M _ ks A' ks.length c' g1 c1 W hl h0 rfl hkk h fun A c L1 L2 B L e p W h1 h2 => c50M ks A ks.length c L1 L2 B L e (.pointer p) W hl h0 rfl hkk h1 h2
theorem h12 (ks : List Int) (hl : ks.length ≤ 120) (h0 : 0 < ks.length) (hkk : ∀ k, k ∈ ks → -9999 ≤ k ∧ k ≤ 9999) :
    ∀ W g1 c1 A' c', MRow W g1 A' ks.length c' (ks.map fun k => (iN k).cells) → Calls Tryz.prog 12 #[.slice (some ⟨g1, 0, none⟩) 1 c1] W (Ret W (.agg #[.int .i64 1, .float .f64 (F16 (16 * ks.sum)), .string ⟨#[]⟩, .slice none 0 0])) := fun W g1 c1 A' c' h =>
  c12M _ ks A' ks.length c' g1 c1 W hl h0 rfl hkk h fun A c L1 L2 B L e p W h1 h2 => c51M ks A ks.length c L1 L2 B L e (.pointer p) W hl h0 rfl hkk h1 h2
theorem tinies_bound {ks : List Int} : ∀ k, k ∈ tinies ks → -9999 ≤ k ∧ k ≤ 9999 := by
  intro k hk
  unfold tinies at hk
  obtain ⟨x, _, rfl⟩ := List.mem_map.1 hk
  exact tin_bound x
theorem tinies_len (ks : List Int) : (tinies ks).length ≤ 120 := by
  unfold tinies
  rw [List.length_map, List.length_take]
  omega
set_option maxRecDepth 100000 in
set_option maxHeartbeats 2000000 in
theorem c3 (xs : List Int) (A : Option Addr) (c : Nat) (w : World) (hl : xs.length ≤ 9223372036854775807) (hx : IRw w A xs) :
    Calls Tryz.prog 3 #[.slice A xs.length c] w (Ret w (.bool true)) := by
  by_cases hbig : xs.length ≤ 2147483647
  · have H7 := Lib.hid (c7 xs A c w hl hx)
    obtain ⟨n0, hn0⟩ : ∃ n, n = xs.length := ⟨_, rfl⟩
    rw [← hn0] at H7 hl hbig ⊢
    clear hn0 hx
    go_enter Tryz.func3, Tryz.ntmps3
    go_wp2_with fail
    refine H7.out.mono ?_
    rintro e w1 ⟨A1, c1, rfl, hr, hc, hb1⟩
    have HB := Lib.hid (tinies_bound (ks := xs))
    have hlen := tinies_len xs
    generalize tinies xs = ys at hr hc hlen HB
    have HR := Lib.hid hr
    clear hr
    by_cases h40 : ys.length ≤ 40
    · obtain ⟨n, hnn⟩ : ∃ n, n = ys.length := ⟨_, rfl⟩
      have hrow := HR.out
      have hbd := HB.out
      rw [← hnn] at h40 hlen hc ⊢
      clear HR HB
      by_cases hn0 : n = 0
      · clear hrow hbd hnn
        subst hn0
        go_wp2_with fail
        refine wp_loop_rounds 1 ?_
        rw [rounds_succ]
        go_wp2_with fail
        go_ret
        exact ret_mk hb1
      have HRow := Lib.hid hrow
      have HBd := Lib.hid hbd
      have HNN := Lib.hid hnn
      have hpos : 0 < n := by omega
      have hb0 : ((n : Int) == 0) = false := by
        have : ¬ (n : Int) = 0 := by omega
        first | (simp; done) | (simpa using this)
      rcases hrow with hnil | ⟨g, o, rfl, hg, hcl⟩
      · rw [hnil] at hnn
        simp at hnn
        try omega
      have HC := Lib.hid hcl
      have H10 : Hid (∀ W, Below w1.heap.size w1 W → Calls Tryz.prog 10 #[.slice (some ⟨g, o, none⟩) n c1] W (fun e w' => ∃ A' c', e = .returned (.agg #[.int .i64 5, .int .i64 0, .int .i64 0, .string ⟨#[]⟩, .slice A' n c']) ∧ ColB W.heap.size w' A' 5 (ys.map fun k => (vN k).cells) ∧ Below W.heap.size W w')) := Lib.hid fun W hb => by
        have := c10 ys (some ⟨g, o, none⟩) c1 W (by omega) (by omega) HBd.out (HRow.out.below hb)
        rw [← HNN.out] at this
        exact this
      clear hcl hbd hnn
      go_wp2_with fail
      go_loopw [3, 4] (fun s i wr => wr = w1 ∧ ∃ q : Nat, q ≤ n ∧ i = .int .i64 q ∧ s = .int .i64 (ys.take q).sum) (fun _ i _ => n - (intOf i).toNat)
      case atStart => exact ⟨rfl, 0, Nat.zero_le _, rfl, by simp⟩
      case round =>
        obtain ⟨rfl, q, hq, rfl, rfl⟩ := hrel
        by_cases hlt : q < n
        · obtain ⟨k, hkq⟩ : ∃ k, ys[q]? = some k := ⟨_, List.getElem?_eq_getElem (by rw [← HNN.out]; exact hlt)⟩
          have hkb := HBd.out k (List.mem_of_getElem? hkq)
          have htb := take_bound HBd.out q (by omega)
          have e0 := HC.out q k hkq
          have HS : Hid ((ys.take (q + 1)).sum = (ys.take q).sum + k) := Lib.hid (take_sum hkq)
          generalize (ys.take q).sum = s at htb HS ⊢
          clear hkq
          go_wp2_with fail
          refine ⟨⟨by first | rfl | trivial, q + 1, by omega, by simp, ?_⟩, by simp only [intOf]; omega⟩
          rw [HS.out]
        · have hqn : n = q := by omega
          subst hqn
          have htk : List.take n ys = ys := by rw [HNN.out, List.take_length]
          rw [htk]
          have hsb := sum_bound ys HBd.out
          rw [← HNN.out] at hsb
          obtain ⟨sm, hsm⟩ : ∃ s, s = ys.sum := ⟨_, rfl⟩
          rw [← hsm] at hsb ⊢
          have HSM := Lib.hid hsm
          clear hsm htk
          by_cases hmod : (4 * sm).tmod (n : Int) = 0
          · obtain ⟨m, hm⟩ : ∃ m : Int, (n : Int) * m = 4 * sm := by
              obtain ⟨m, hm⟩ := Int.dvd_of_tmod_eq_zero hmod
              exact ⟨m, hm.symm⟩
            have hmb : m.natAbs ≤ 100000 := by
              have h1 : m ≤ 39996 := by
                by_cases h : m ≤ 39996
                · exact h
                · have := Int.mul_le_mul_of_nonneg_left (show (39997 : Int) ≤ m by omega) (show (0 : Int) ≤ (n : Int) by omega)
                  omega
              have h2 : -39996 ≤ m := by
                by_cases h : -39996 ≤ m
                · exact h
                · have := Int.mul_le_mul_of_nonneg_left (show m ≤ (-39997 : Int) by omega) (show (0 : Int) ≤ (n : Int) by omega)
                  omega
              omega
            have hmz : 16 * sm ≠ 0 ∨ (0 ≤ 4 * m ∧ 0 ≤ 16 * (n : Int)) := by
              by_cases h : sm = 0
              · right
                rw [h] at hm
                have : m = 0 := by
                  rcases Int.mul_eq_zero.1 (show (n : Int) * m = 0 by omega) with h | h
                  · omega
                  · exact h
                omega
              · left
                omega
            have hmul : ∀ W, (binOp BinOp.mul 24 (.float FloatKind.f64 (F16 (4 * m))) (.float FloatKind.f64 (floatOfInt FloatKind.f64 (n : Int)))).run Tryz.prog W = .ok (.float FloatKind.f64 (F16 (16 * sm))) W := fun W => by
              rw [foi_F16 (n : Int) (by omega)]
              exact run_float_arith W _ _ _ _ _ _ (mul_F16 (4 * m) (16 * (n : Int)) (16 * sm) (by omega) (by omega) (by omega) (by rw [Int.mul_left_comm (4 * m), Int.mul_assoc 4 m, Int.mul_comm m, hm]; omega) hmz)
            have hord := (fok_F16 (16 * sm) (by omega)).1
            have hfi := foi_F16 sm (by omega)
            have hL1 : ys.length ≤ 120 := by rw [← HNN.out]; omega
            have hL0 : 0 < ys.length := by rw [← HNN.out]; omega
            have H9 := Lib.hid (fun (A : Option Addr) c B W (hx : ColB B W A 5 (ys.map fun k => (vN k).cells)) => askM 9 (F16 (4 * m)) ys A c B W (by omega) (by omega) HBd.out hx enters9 (h9 ys m (by omega) (by omega) HBd.out (by rw [← HNN.out, ← HSM.out]; exact hm) hmb))
            have H11 := Lib.hid (fun (A : Option Addr) c B W (hx : ColB B W A 5 (ys.map fun k => (vN k).cells)) => askM 11 (floatOfInt FloatKind.f64 (ys.length : Int)) ys A c B W (by omega) (by omega) HBd.out hx enters11 (h11 ys (by omega) (by omega) HBd.out))
            have H12 := Lib.hid (fun (A : Option Addr) c B W (hx : ColB B W A 5 (ys.map fun k => (vN k).cells)) => askM 12 (F16 (16 * ys.sum)) ys A c B W (by omega) (by omega) HBd.out hx enters12 (h12 ys (by omega) (by omega) HBd.out))
            rw [← HNN.out] at H9 H11 H12
            rw [← HSM.out] at H12
            have hs1 : -399960 ≤ sm := by omega
            have hs2 : sm ≤ 399960 := by omega
            have hbm : ((4 * sm).tmod (n : Int) != 0) = false := by simpa using hmod
            clear hm hmz hsb hmb hL1 hL0 hmod
            generalize F16 (16 * sm) = fs at hmul hord hfi H12
            generalize F16 (4 * m) = fm at hmul H9
            go_wp2_with fail
            refine (H10.out wr (Below.refl _ _)).mono ?_
            rintro e w2 ⟨A2, c2, rfl, hcol2, hb2⟩
            have HC2 := Lib.hid hcol2
            clear hcol2
            have hbw2 : Below wr.heap.size wr w2 := hb2
            go_wp2_with fail
            refine (H9.out A2 c2 _ w2 HC2.out).mono ?_
            rintro e w3 ⟨rfl, hb3⟩
            have hbw3 : Below wr.heap.size wr w3 := keepS hb3 (hbw2.alloc hbw2.size _)
            clear hb2 hb3
            go_wp2_with fail
            refine (H10.out w3 hbw3).mono ?_
            rintro e w4 ⟨A4, c4, rfl, hcol4, hb4⟩
            have HC4 := Lib.hid hcol4
            clear hcol4
            have hbw4 : Below wr.heap.size wr w4 := keepS hb4 hbw3
            go_wp2_with fail
            refine (H11.out A4 c4 _ w4 HC4.out).mono ?_
            rintro e w5 ⟨rfl, hb5⟩
            have hbw5 : Below wr.heap.size wr w5 := keepS hb5 (hbw4.alloc hbw4.size _)
            clear hb4 hb5
            go_wp2_with fail
            refine (H10.out w5 hbw5).mono ?_
            rintro e w6 ⟨A6, c6, rfl, hcol6, hb6⟩
            have HC6 := Lib.hid hcol6
            clear hcol6
            have hbw6 : Below wr.heap.size wr w6 := keepS hb6 hbw5
            go_wp2_with fail
            refine (H12.out A6 c6 _ w6 HC6.out).mono ?_
            rintro e w7 ⟨rfl, hb7⟩
            have hbw7 : Below wr.heap.size wr w7 := keepS hb7 (hbw6.alloc hbw6.size _)
            clear hb6 hb7
            go_wp2_with fail
            have hf : Below w.heap.size w w7 := keepS hbw7 hb1
            have hfs := hf.size
            go_ret
            exact ret_mk (by repeat (first | (with_reducible exact Below.refl _ _) | (with_reducible assumption) | ((with_reducible refine Below.alloc ?_ ?_ _); rotate_left; focus (first | exact Nat.le_refl _ | omega | (simp; done) | (simp; omega))) | ((with_reducible refine Below.setCell ?_ ?_ _); rotate_left; focus (first | exact Nat.le_refl _ | omega | (simp; done) | (simp; omega))) | (with_reducible refine Below.drew ?_) | (with_reducible refine below_drewN ?_ _) | ((with_reducible refine below_via (by assumption) ?_ ?_); focus (first | exact Nat.le_refl _ | omega | (simp; done) | (simp; omega)))))
          · have hs1 : -399960 ≤ sm := by omega
            have hs2 : sm ≤ 399960 := by omega
            have hbm : ((4 * sm).tmod (n : Int) != 0) = true := by simpa using hmod
            clear hsb hmod
            go_wp2_with fail
            go_ret
            exact ret_mk hb1
    · have hrow := HR.out.take 40
      have hbd : ∀ k, k ∈ ys.take 40 → -9999 ≤ k ∧ k ≤ 9999 := fun k hk => HB.out k (List.mem_of_mem_take hk)
      have hnn : 40 = (ys.take 40).length := by rw [List.length_take]; omega
      obtain ⟨zs, hzs⟩ : ∃ zs, zs = ys.take 40 := ⟨_, rfl⟩
      rw [← hzs] at hrow hbd hnn
      clear HR HB hzs
      generalize ys.length = m0 at h40 hlen hc ⊢
      have hn0 : True := trivial
      have HRow := Lib.hid hrow
      have HBd := Lib.hid hbd
      have HNN := Lib.hid hnn
      have hpos : 0 < 40 := by omega
      have hb0 : ((40 : Int) == 0) = false := by
        have : ¬ (40 : Int) = 0 := by omega
        first | (simp; done) | (simpa using this)
      rcases hrow with hnil | ⟨g, o, rfl, hg, hcl⟩
      · rw [hnil] at hnn
        simp at hnn
        try omega
      have HC := Lib.hid hcl
      have H10 : Hid (∀ W, Below w1.heap.size w1 W → Calls Tryz.prog 10 #[.slice (some ⟨g, o, none⟩) 40 c1] W (fun e w' => ∃ A' c', e = .returned (.agg #[.int .i64 5, .int .i64 0, .int .i64 0, .string ⟨#[]⟩, .slice A' 40 c']) ∧ ColB W.heap.size w' A' 5 (zs.map fun k => (vN k).cells) ∧ Below W.heap.size W w')) := Lib.hid fun W hb => by
        have := c10 zs (some ⟨g, o, none⟩) c1 W (by omega) (by omega) HBd.out (HRow.out.below hb)
        rw [← HNN.out] at this
        exact this
      clear hcl hbd hnn
      go_wp2_with fail
      go_loopw [3, 4] (fun s i wr => wr = w1 ∧ ∃ q : Nat, q ≤ 40 ∧ i = .int .i64 q ∧ s = .int .i64 (zs.take q).sum) (fun _ i _ => 40 - (intOf i).toNat)
      case atStart => exact ⟨rfl, 0, Nat.zero_le _, rfl, by simp⟩
      case round =>
        obtain ⟨rfl, q, hq, rfl, rfl⟩ := hrel
        by_cases hlt : q < 40
        · obtain ⟨k, hkq⟩ : ∃ k, zs[q]? = some k := ⟨_, List.getElem?_eq_getElem (by rw [← HNN.out]; exact hlt)⟩
          have hkb := HBd.out k (List.mem_of_getElem? hkq)
          have htb := take_bound HBd.out q (by omega)
          have e0 := HC.out q k hkq
          have HS : Hid ((zs.take (q + 1)).sum = (zs.take q).sum + k) := Lib.hid (take_sum hkq)
          generalize (zs.take q).sum = s at htb HS ⊢
          clear hkq
          go_wp2_with fail
          refine ⟨⟨by first | rfl | trivial, q + 1, by omega, by simp, ?_⟩, by simp only [intOf]; omega⟩
          rw [HS.out]
        · have hqn : 40 = q := by omega
          subst hqn
          have htk : List.take 40 zs = zs := by rw [HNN.out, List.take_length]
          rw [htk]
          have hsb := sum_bound zs HBd.out
          rw [← HNN.out] at hsb
          obtain ⟨sm, hsm⟩ : ∃ s, s = zs.sum := ⟨_, rfl⟩
          rw [← hsm] at hsb ⊢
          have HSM := Lib.hid hsm
          clear hsm htk
          by_cases hmod : (4 * sm).tmod (40 : Int) = 0
          · obtain ⟨m, hm⟩ : ∃ m : Int, (40 : Int) * m = 4 * sm := by
              obtain ⟨m, hm⟩ := Int.dvd_of_tmod_eq_zero hmod
              exact ⟨m, hm.symm⟩
            have hmb : m.natAbs ≤ 100000 := by
              have h1 : m ≤ 39996 := by
                by_cases h : m ≤ 39996
                · exact h
                · have := Int.mul_le_mul_of_nonneg_left (show (39997 : Int) ≤ m by omega) (show (0 : Int) ≤ (40 : Int) by omega)
                  omega
              have h2 : -39996 ≤ m := by
                by_cases h : -39996 ≤ m
                · exact h
                · have := Int.mul_le_mul_of_nonneg_left (show m ≤ (-39997 : Int) by omega) (show (0 : Int) ≤ (40 : Int) by omega)
                  omega
              omega
            have hmz : 16 * sm ≠ 0 ∨ (0 ≤ 4 * m ∧ 0 ≤ 16 * (40 : Int)) := by
              by_cases h : sm = 0
              · right
                rw [h] at hm
                have : m = 0 := by
                  rcases Int.mul_eq_zero.1 (show (40 : Int) * m = 0 by omega) with h | h
                  · omega
                  · exact h
                omega
              · left
                omega
            have hmul : ∀ W, (binOp BinOp.mul 24 (.float FloatKind.f64 (F16 (4 * m))) (.float FloatKind.f64 (floatOfInt FloatKind.f64 (40 : Int)))).run Tryz.prog W = .ok (.float FloatKind.f64 (F16 (16 * sm))) W := fun W => by
              rw [foi_F16 (40 : Int) (by omega)]
              exact run_float_arith W _ _ _ _ _ _ (mul_F16 (4 * m) (16 * (40 : Int)) (16 * sm) (by omega) (by omega) (by omega) (by rw [Int.mul_left_comm (4 * m), Int.mul_assoc 4 m, Int.mul_comm m, hm]; omega) hmz)
            have hord := (fok_F16 (16 * sm) (by omega)).1
            have hfi := foi_F16 sm (by omega)
            have hL1 : zs.length ≤ 120 := by rw [← HNN.out]; omega
            have hL0 : 0 < zs.length := by rw [← HNN.out]; omega
            have H9 := Lib.hid (fun (A : Option Addr) c B W (hx : ColB B W A 5 (zs.map fun k => (vN k).cells)) => askM 9 (F16 (4 * m)) zs A c B W (by omega) (by omega) HBd.out hx enters9 (h9 zs m (by omega) (by omega) HBd.out (by rw [← HNN.out, ← HSM.out]; exact hm) hmb))
            have H11 := Lib.hid (fun (A : Option Addr) c B W (hx : ColB B W A 5 (zs.map fun k => (vN k).cells)) => askM 11 (floatOfInt FloatKind.f64 (zs.length : Int)) zs A c B W (by omega) (by omega) HBd.out hx enters11 (h11 zs (by omega) (by omega) HBd.out))
            have H12 := Lib.hid (fun (A : Option Addr) c B W (hx : ColB B W A 5 (zs.map fun k => (vN k).cells)) => askM 12 (F16 (16 * zs.sum)) zs A c B W (by omega) (by omega) HBd.out hx enters12 (h12 zs (by omega) (by omega) HBd.out))
            rw [← HNN.out] at H9 H11 H12
            rw [← HSM.out] at H12
            have hs1 : -399960 ≤ sm := by omega
            have hs2 : sm ≤ 399960 := by omega
            have hbm : ((4 * sm).tmod (40 : Int) != 0) = false := by simpa using hmod
            clear hm hmz hsb hmb hL1 hL0 hmod
            generalize F16 (16 * sm) = fs at hmul hord hfi H12
            generalize F16 (4 * m) = fm at hmul H9
            go_wp2_with fail
            refine (H10.out wr (Below.refl _ _)).mono ?_
            rintro e w2 ⟨A2, c2, rfl, hcol2, hb2⟩
            have HC2 := Lib.hid hcol2
            clear hcol2
            have hbw2 : Below wr.heap.size wr w2 := hb2
            go_wp2_with fail
            refine (H9.out A2 c2 _ w2 HC2.out).mono ?_
            rintro e w3 ⟨rfl, hb3⟩
            have hbw3 : Below wr.heap.size wr w3 := keepS hb3 (hbw2.alloc hbw2.size _)
            clear hb2 hb3
            go_wp2_with fail
            refine (H10.out w3 hbw3).mono ?_
            rintro e w4 ⟨A4, c4, rfl, hcol4, hb4⟩
            have HC4 := Lib.hid hcol4
            clear hcol4
            have hbw4 : Below wr.heap.size wr w4 := keepS hb4 hbw3
            go_wp2_with fail
            refine (H11.out A4 c4 _ w4 HC4.out).mono ?_
            rintro e w5 ⟨rfl, hb5⟩
            have hbw5 : Below wr.heap.size wr w5 := keepS hb5 (hbw4.alloc hbw4.size _)
            clear hb4 hb5
            go_wp2_with fail
            refine (H10.out w5 hbw5).mono ?_
            rintro e w6 ⟨A6, c6, rfl, hcol6, hb6⟩
            have HC6 := Lib.hid hcol6
            clear hcol6
            have hbw6 : Below wr.heap.size wr w6 := keepS hb6 hbw5
            go_wp2_with fail
            refine (H12.out A6 c6 _ w6 HC6.out).mono ?_
            rintro e w7 ⟨rfl, hb7⟩
            have hbw7 : Below wr.heap.size wr w7 := keepS hb7 (hbw6.alloc hbw6.size _)
            clear hb6 hb7
            go_wp2_with fail
            have hf : Below w.heap.size w w7 := keepS hbw7 hb1
            have hfs := hf.size
            go_ret
            exact ret_mk (by repeat (first | (with_reducible exact Below.refl _ _) | (with_reducible assumption) | ((with_reducible refine Below.alloc ?_ ?_ _); rotate_left; focus (first | exact Nat.le_refl _ | omega | (simp; done) | (simp; omega))) | ((with_reducible refine Below.setCell ?_ ?_ _); rotate_left; focus (first | exact Nat.le_refl _ | omega | (simp; done) | (simp; omega))) | (with_reducible refine Below.drew ?_) | (with_reducible refine below_drewN ?_ _) | ((with_reducible refine below_via (by assumption) ?_ ?_); focus (first | exact Nat.le_refl _ | omega | (simp; done) | (simp; omega)))))
          · have hs1 : -399960 ≤ sm := by omega
            have hs2 : sm ≤ 399960 := by omega
            have hbm : ((4 * sm).tmod (40 : Int) != 0) = true := by simpa using hmod
            clear hsb hmod
            go_wp2_with fail
            go_ret
            exact ret_mk hb1
  · clear hx
    obtain ⟨n0, hn0⟩ : ∃ n, n = xs.length := ⟨_, rfl⟩
    rw [← hn0] at hl hbig ⊢
    clear hn0
    go_enter Tryz.func3, Tryz.ntmps3
    go_wp2_with fail
    go_ret
    exact ret_mk (Below.refl _ _)
end Go.Proofs.YtkhgaenffnoimaaGreatDoor
