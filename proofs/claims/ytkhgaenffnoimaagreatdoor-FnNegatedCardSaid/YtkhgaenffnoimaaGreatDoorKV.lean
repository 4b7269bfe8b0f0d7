/- The law FnNegated (printed by genneg.py). -/
import Derived.Test.YtkhgaenffnoimaaGreatDoorKX
import Derived.Test.YtkhgaenffnoimaaGreatDoorKW
import Derived.Test.YtkhgaenffnoimaaGreatDoorKU
import Derived.Test.YtkhgaenffnoimaaGreatDoorKP
set_option linter.unusedSimpArgs false
set_option linter.unusedVariables false
namespace Go.Proofs.YtkhgaenffnoimaaGreatDoor
open Go.RowKit FL
attribute [local go_sem] run_store_float as64
/-- part of three. -/
def part3 (k : Int) : Int := if k.tmod 3 < 0 then k.tmod 3 + 3 else k.tmod 3
theorem part3_in (k : Int) : part3 k = 0 ∨ part3 k = 1 ∨ part3 k = 2 := by
  unfold part3
  have h1 := Int.tmod_lt_of_pos k (b := 3) (by decide)
  have h2 := Int.tmod_lt_of_pos (-k) (b := 3) (by decide)
  rw [Int.neg_tmod] at h2
  split <;> omega
set_option maxRecDepth 100000 in
theorem c15_3 (k : Int) (w : World) : Calls Tryz.prog 15 #[.int .i64 k, .int .i64 3] w (fun e w' => e = .returned (.int .i64 (part3 k)) ∧ w' = w) := by
  have h1 := Int.tmod_lt_of_pos k (b := 3) (by decide)
  have h2 := Int.tmod_lt_of_pos (-k) (b := 3) (by decide)
  rw [Int.neg_tmod] at h2
  unfold part3
  go_enter Tryz.func15, Tryz.ntmps15
  by_cases h : k.tmod 3 < 0
  · rw [if_pos h]
    go_wp2_with fail
    go_ret
    exact ⟨rfl, rfl⟩
  · rw [if_neg h]
    go_wp2_with fail
    go_ret
    exact ⟨rfl, rfl⟩
/-- ask of COUNTIF: a column and a comparison with a number. -/
theorem askN (o : Nat) (ho : o = 11 ∨ o = 12 ∨ o = 13 ∨ o = 14 ∨ o = 15 ∨ o = 16) (ys : List Int) (kc : Int) (g n : Nat) (W : World) (hlen : n = ys.length) (hl : n ≤ 120) (h0 : 0 < n) (hkk : ∀ k, k ∈ ys → -9999 ≤ k ∧ k ≤ 9999) (hkc : kc.natAbs ≤ 9999)
    (hT : FT W) (hTb : Tabs W) (h : VT W g n ys (⟨(cmpL o).toArray⟩ ++ plainS kc)) :
    Calls Tryz.prog 8 #[.func (.func 16) #[] #[], .slice (some ⟨g, 0, none⟩) 2 2] W (Ret W (.agg #[.int .i64 1, .float .f64 (F16 (16 * (ys.countP (cmpB o kc) : Int))), .string ⟨#[]⟩, .slice none 0 0])) := by
  subst hlen
  obtain ⟨hg, A, c, hcol, e0, e1, e2, e3, e4, e5, e6, e7, e8, e9⟩ := h
  exact c8MT _ ys _ A c g W hl h0 hkk hcol hg e0 e1 e2 e3 e4 e5 e6 e7 e8 e9 fun W1 g1 c1 A' c' hW1 hM =>
    c16MT _ ys _ A' ys.length c' g1 c1 W1 hl h0 rfl hkk hM fun A c L1 L2 B L e e2 p W2 hW2 hfm hdl =>
      countN o ho ys kc A c L1 L2 B L e e2 (.pointer p) W2 hl h0 hkk hkc ((hT.below hW1 hT.1).below hW2 (Nat.lt_of_lt_of_le hT.1 hW1.size)) ((hTb.below hW1 hT.1).below hW2 (Nat.lt_of_lt_of_le hT.1 hW1.size)) hfm hdl
/-- Both counts together. -/
theorem both_F16 (ys : List Int) (p q : Int → Bool) (n : Nat) (hlen : n = ys.length) (hl : n ≤ 120) (h : ∀ k, q k = !p k) (W : World) :
    (binOp BinOp.add 24 (.float FloatKind.f64 (F16 (16 * (ys.countP p : Int)))) (.float FloatKind.f64 (F16 (16 * (ys.countP q : Int))))).run Tryz.prog W = .ok (.float FloatKind.f64 (F16 (16 * (n : Int)))) W := by
  have h1 := List.countP_le_length (p := p) (l := ys)
  have h2 := List.countP_le_length (p := q) (l := ys)
  have h3 := count_two ys p q h
  have h4 := run_add_F16 (16 * (ys.countP p : Int)) (16 * (ys.countP q : Int)) _ _ rfl rfl (by omega) (by omega) W
  rw [h4, show 16 * (ys.countP p : Int) + 16 * (ys.countP q : Int) = 16 * (n : Int) by omega]
set_option maxRecDepth 100000 in
set_option maxHeartbeats 4000000 in
theorem c4 (xs : List Int) (nn which : Int) (A : Option Addr) (c : Nat) (w : World) (hl : xs.length ≤ 9223372036854775807) (hx : IRw w A xs) (hT : FT w) (hTb : Tabs w) :
    Calls Tryz.prog 4 #[.slice A xs.length c, .int .i64 nn, .int .i64 which] w (Ret w (.bool true)) := by
  by_cases hbig : xs.length ≤ 2147483647
  · have H7 := Lib.hid (c7 xs A c w hl hx)
    obtain ⟨n0, hn0⟩ : ∃ n, n = xs.length := ⟨_, rfl⟩
    rw [← hn0] at H7 hl hbig ⊢
    clear hn0 hx
    go_enter Tryz.func4, Tryz.ntmps4
    go_wp2_with fail
    refine H7.out.mono ?_
    rintro e w1 ⟨A1, c1, rfl, hr, hc, hb1⟩
    have hlen : (tinies xs).length ≤ 120 := by unfold tinies; rw [List.length_map, List.length_take]; omega
    have HB : Hid (∀ k, k ∈ tinies xs → -9999 ≤ k ∧ k ≤ 9999) := Lib.hid fun k hk => by
      unfold tinies at hk
      obtain ⟨x, _, rfl⟩ := List.mem_map.1 hk
      exact tin_bound x
    have HR := Lib.hid hr
    clear hr
    generalize tinies xs = ys at HR HB hc hlen
    obtain ⟨n, hnn⟩ : ∃ n, n = ys.length := ⟨_, rfl⟩
    rw [← hnn] at hlen hc ⊢
    have HNN := Lib.hid hnn
    clear hnn
    by_cases hz : n = 0
    · subst hz
      go_wp2_with fail
      go_ret
      exact ret_mk hb1
    · have htb := tin_bound nn
      have H14 := Lib.hid (c14 (tin nn) w1 (by omega) (by omega))
      have H13 := Lib.hid (fun W => c13 (tin nn) ⟨#[]⟩ W (by omega) (by omega))
      have H15 := Lib.hid (fun W => c15_3 which W)
      have hps : (plainS (tin nn)).size ≤ 100 := by rw [plainS_size]; have := nDigits_le6 (tin nn).natAbs (by omega); split <;> omega
      have hpos : 0 < n := by omega
      have HK : Hid ((tin nn).natAbs ≤ 9999) := Lib.hid (by omega)
      clear htb
      go_wp2_with fail
      refine H14.out.mono ?_
      rintro e w2 ⟨rfl, hb2⟩
      go_wp2_with fail
      refine (H13.out w2).mono ?_
      rintro e w3 ⟨rfl, hb3⟩
      have hb3w : Below w.heap.size w w3 := keepS hb3 (keepS hb2 hb1)
      have HR3 := Lib.hid ((HR.out.below hb2).below hb3)
      go_wp2_with fail
      refine (H15.out _).mono ?_
      rintro e w4 ⟨rfl, rfl⟩
      rcases part3_in which with hp | hp | hp
      · rw [hp]
        go_wp2_with fail
        generalize hW : World.alloc (World.alloc w3 _) _ = W8
        have hb8 : Below w3.heap.size w3 W8 := by rw [← hW]; exact (by repeat (first | (with_reducible exact Below.refl _ _) | (with_reducible assumption) | ((with_reducible refine Below.alloc ?_ ?_ _); rotate_left; focus (first | exact Nat.le_refl _ | omega | (simp; done) | (simp; omega))) | ((with_reducible refine Below.setCell ?_ ?_ _); rotate_left; focus (first | exact Nat.le_refl _ | omega | (simp; done) | (simp; omega))) | (with_reducible refine Below.drew ?_) | (with_reducible refine below_drewN ?_ _) | ((with_reducible refine below_via (by assumption) ?_ ?_); focus (first | exact Nat.le_refl _ | omega | (simp; done) | (simp; omega)))))
        have hg8 : w3.heap.size + 1 < W8.heap.size := by rw [← hW]; simp
        have hS8 : SS (w3.heap.size + 1) ⟨#[60, 61]⟩ ⟨#[62]⟩ W8 := by rw [← hW]; exact ⟨by simp [go_sem], by simp [go_sem]⟩
        clear hW
        have hb8w : Below w.heap.size w W8 := keepS hb8 hb3w
        have hbd : Below w.heap.size w W8.drew := Below.drew hb8w
        have HR8 := Lib.hid ((HR3.out.below hb8).below (Below.drew (Below.refl _ _)))
        have hT8 : FT W8.drew := hT.below hbd hT.1
        have hTb8 : Tabs W8.drew := hTb.below hbd hT.1
        have HK8 : K8 W8.drew (.slice A1 n c1) n ys (⟨#[60, 61]⟩ ++ plainS (tin nn)) (⟨#[62]⟩ ++ plainS (tin nn)) (F16 (16 * (ys.countP (cmpB 12 (tin nn)) : Int))) (F16 (16 * (ys.countP (cmpB 16 (tin nn)) : Int))) :=
          ⟨fun W hW => by
            have := c10 ys A1 c1 W (by rw [← HNN.out]; exact hlen) (by rw [← HNN.out]; exact hpos) HB.out (HR8.out.below hW)
            rw [← HNN.out] at this
            exact this,
          fun W g hW hv => askN 12 (by simp) ys (tin nn) g n W HNN.out hlen hpos HB.out HK.out (hT8.below hW hT8.1) (hTb8.below hW hT8.1) hv,
          fun W g hW hv => askN 16 (by simp) ys (tin nn) g n W HNN.out hlen hpos HB.out HK.out (hT8.below hW hT8.1) (hTb8.below hW hT8.1) hv⟩
        have hadd := both_F16 ys (cmpB 12 (tin nn)) (cmpB 16 (tin nn)) n HNN.out hlen (pair1 (tin nn))
        have hord := (fok_F16 (16 * (n : Int)) (by omega)).1
        have hfi := foi_F16 (n : Int) (by omega)
        generalize F16 (16 * (ys.countP (cmpB 12 (tin nn)) : Int)) = f0 at HK8 hadd
        generalize F16 (16 * (ys.countP (cmpB 16 (tin nn)) : Int)) = f1 at HK8 hadd
        generalize F16 (16 * (n : Int)) = fn at hadd hord hfi
        refine reg8 (sl := .slice A1 n c1) (num := plainS (tin nn)) (g8 := w3.heap.size + 1) (by kernel_rfl) (by rfl) rfl HK8 (ss_below hS8 hg8 (Below.drew (Below.refl _ _))) hg8 (by show 2 + _ ≤ _; omega) (by show 1 + _ ≤ _; omega) ?_ (fun _ _ _ _ _ h => h)
        intro f g9 g10 v32 v37 v38 v41 v46 v47 W9 hb9 hl9 hl10
        have hb9w : Below w.heap.size w W9 := keepS hb9 hbd
        have x0 := hl9.c 0 _ rfl
        have x1 := hl9.c 1 _ rfl
        have y0 := hl10.c 0 _ rfl
        have y1 := hl10.c 1 _ rfl
        have lt9 := hl9.lt
        have lt10 := hl10.lt
        clear hl9 hl10 HK8 hb9 hS8
        unfold A8
        go_wp2_with fail
        go_ret
        exact ret_mk hb9w
      · rw [hp]
        go_wp2_with fail
        generalize hW : World.alloc (World.alloc w3 _) _ = W8
        have hb8 : Below w3.heap.size w3 W8 := by rw [← hW]; exact (by repeat (first | (with_reducible exact Below.refl _ _) | (with_reducible assumption) | ((with_reducible refine Below.alloc ?_ ?_ _); rotate_left; focus (first | exact Nat.le_refl _ | omega | (simp; done) | (simp; omega))) | ((with_reducible refine Below.setCell ?_ ?_ _); rotate_left; focus (first | exact Nat.le_refl _ | omega | (simp; done) | (simp; omega))) | (with_reducible refine Below.drew ?_) | (with_reducible refine below_drewN ?_ _) | ((with_reducible refine below_via (by assumption) ?_ ?_); focus (first | exact Nat.le_refl _ | omega | (simp; done) | (simp; omega)))))
        have hg8 : w3.heap.size + 1 < W8.heap.size := by rw [← hW]; simp
        have hS8 : SS (w3.heap.size + 1) ⟨#[62, 61]⟩ ⟨#[60]⟩ W8 := by rw [← hW]; exact ⟨by simp [go_sem], by simp [go_sem]⟩
        clear hW
        have hb8w : Below w.heap.size w W8 := keepS hb8 hb3w
        have hbd : Below w.heap.size w W8.drew := Below.drew hb8w
        have HR8 := Lib.hid ((HR3.out.below hb8).below (Below.drew (Below.refl _ _)))
        have hT8 : FT W8.drew := hT.below hbd hT.1
        have hTb8 : Tabs W8.drew := hTb.below hbd hT.1
        have HK8 : K8 W8.drew (.slice A1 n c1) n ys (⟨#[62, 61]⟩ ++ plainS (tin nn)) (⟨#[60]⟩ ++ plainS (tin nn)) (F16 (16 * (ys.countP (cmpB 13 (tin nn)) : Int))) (F16 (16 * (ys.countP (cmpB 15 (tin nn)) : Int))) :=
          ⟨fun W hW => by
            have := c10 ys A1 c1 W (by rw [← HNN.out]; exact hlen) (by rw [← HNN.out]; exact hpos) HB.out (HR8.out.below hW)
            rw [← HNN.out] at this
            exact this,
          fun W g hW hv => askN 13 (by simp) ys (tin nn) g n W HNN.out hlen hpos HB.out HK.out (hT8.below hW hT8.1) (hTb8.below hW hT8.1) hv,
          fun W g hW hv => askN 15 (by simp) ys (tin nn) g n W HNN.out hlen hpos HB.out HK.out (hT8.below hW hT8.1) (hTb8.below hW hT8.1) hv⟩
        have hadd := both_F16 ys (cmpB 13 (tin nn)) (cmpB 15 (tin nn)) n HNN.out hlen (pair2 (tin nn))
        have hord := (fok_F16 (16 * (n : Int)) (by omega)).1
        have hfi := foi_F16 (n : Int) (by omega)
        generalize F16 (16 * (ys.countP (cmpB 13 (tin nn)) : Int)) = f0 at HK8 hadd
        generalize F16 (16 * (ys.countP (cmpB 15 (tin nn)) : Int)) = f1 at HK8 hadd
        generalize F16 (16 * (n : Int)) = fn at hadd hord hfi
        refine reg8 (sl := .slice A1 n c1) (num := plainS (tin nn)) (g8 := w3.heap.size + 1) (by kernel_rfl) (by rfl) rfl HK8 (ss_below hS8 hg8 (Below.drew (Below.refl _ _))) hg8 (by show 2 + _ ≤ _; omega) (by show 1 + _ ≤ _; omega) ?_ (fun _ _ _ _ _ h => h)
        intro f g9 g10 v32 v37 v38 v41 v46 v47 W9 hb9 hl9 hl10
        have hb9w : Below w.heap.size w W9 := keepS hb9 hbd
        have x0 := hl9.c 0 _ rfl
        have x1 := hl9.c 1 _ rfl
        have y0 := hl10.c 0 _ rfl
        have y1 := hl10.c 1 _ rfl
        have lt9 := hl9.lt
        have lt10 := hl10.lt
        clear hl9 hl10 HK8 hb9 hS8
        unfold A8
        go_wp2_with fail
        go_ret
        exact ret_mk hb9w
      · rw [hp]
        go_wp2_with fail
        generalize hW : World.alloc (World.alloc w3 _) _ = W8
        have hb8 : Below w3.heap.size w3 W8 := by rw [← hW]; exact (by repeat (first | (with_reducible exact Below.refl _ _) | (with_reducible assumption) | ((with_reducible refine Below.alloc ?_ ?_ _); rotate_left; focus (first | exact Nat.le_refl _ | omega | (simp; done) | (simp; omega))) | ((with_reducible refine Below.setCell ?_ ?_ _); rotate_left; focus (first | exact Nat.le_refl _ | omega | (simp; done) | (simp; omega))) | (with_reducible refine Below.drew ?_) | (with_reducible refine below_drewN ?_ _) | ((with_reducible refine below_via (by assumption) ?_ ?_); focus (first | exact Nat.le_refl _ | omega | (simp; done) | (simp; omega)))))
        have hg8 : w3.heap.size + 1 < W8.heap.size := by rw [← hW]; simp
        have hS8 : SS (w3.heap.size + 1) ⟨#[61]⟩ ⟨#[60, 62]⟩ W8 := by rw [← hW]; exact ⟨by simp [go_sem], by simp [go_sem]⟩
        clear hW
        have hb8w : Below w.heap.size w W8 := keepS hb8 hb3w
        have hbd : Below w.heap.size w W8.drew := Below.drew hb8w
        have HR8 := Lib.hid ((HR3.out.below hb8).below (Below.drew (Below.refl _ _)))
        have hT8 : FT W8.drew := hT.below hbd hT.1
        have hTb8 : Tabs W8.drew := hTb.below hbd hT.1
        have HK8 : K8 W8.drew (.slice A1 n c1) n ys (⟨#[61]⟩ ++ plainS (tin nn)) (⟨#[60, 62]⟩ ++ plainS (tin nn)) (F16 (16 * (ys.countP (cmpB 11 (tin nn)) : Int))) (F16 (16 * (ys.countP (cmpB 14 (tin nn)) : Int))) :=
          ⟨fun W hW => by
            have := c10 ys A1 c1 W (by rw [← HNN.out]; exact hlen) (by rw [← HNN.out]; exact hpos) HB.out (HR8.out.below hW)
            rw [← HNN.out] at this
            exact this,
          fun W g hW hv => askN 11 (by simp) ys (tin nn) g n W HNN.out hlen hpos HB.out HK.out (hT8.below hW hT8.1) (hTb8.below hW hT8.1) hv,
          fun W g hW hv => askN 14 (by simp) ys (tin nn) g n W HNN.out hlen hpos HB.out HK.out (hT8.below hW hT8.1) (hTb8.below hW hT8.1) hv⟩
        have hadd := both_F16 ys (cmpB 11 (tin nn)) (cmpB 14 (tin nn)) n HNN.out hlen (pair3 (tin nn))
        have hord := (fok_F16 (16 * (n : Int)) (by omega)).1
        have hfi := foi_F16 (n : Int) (by omega)
        generalize F16 (16 * (ys.countP (cmpB 11 (tin nn)) : Int)) = f0 at HK8 hadd
        generalize F16 (16 * (ys.countP (cmpB 14 (tin nn)) : Int)) = f1 at HK8 hadd
        generalize F16 (16 * (n : Int)) = fn at hadd hord hfi
        refine reg8 (sl := .slice A1 n c1) (num := plainS (tin nn)) (g8 := w3.heap.size + 1) (by kernel_rfl) (by rfl) rfl HK8 (ss_below hS8 hg8 (Below.drew (Below.refl _ _))) hg8 (by show 1 + _ ≤ _; omega) (by show 2 + _ ≤ _; omega) ?_ (fun _ _ _ _ _ h => h)
        intro f g9 g10 v32 v37 v38 v41 v46 v47 W9 hb9 hl9 hl10
        have hb9w : Below w.heap.size w W9 := keepS hb9 hbd
        have x0 := hl9.c 0 _ rfl
        have x1 := hl9.c 1 _ rfl
        have y0 := hl10.c 0 _ rfl
        have y1 := hl10.c 1 _ rfl
        have lt9 := hl9.lt
        have lt10 := hl10.lt
        clear hl9 hl10 HK8 hb9 hS8
        unfold A8
        go_wp2_with fail
        go_ret
        exact ret_mk hb9w
  · obtain ⟨n0, hn0⟩ : ∃ n, n = xs.length := ⟨_, rfl⟩
    rw [← hn0] at hl hbig ⊢
    clear hn0 hx hT hTb
    go_enter Tryz.func4, Tryz.ntmps4
    go_wp2_with fail
    go_ret
    exact ret_mk (by repeat (first | (with_reducible exact Below.refl _ _) | (with_reducible assumption) | ((with_reducible refine Below.alloc ?_ ?_ _); rotate_left; focus (first | exact Nat.le_refl _ | omega | (simp; done) | (simp; omega))) | ((with_reducible refine Below.setCell ?_ ?_ _); rotate_left; focus (first | exact Nat.le_refl _ | omega | (simp; done) | (simp; omega))) | (with_reducible refine Below.drew ?_) | (with_reducible refine below_drewN ?_ _) | ((with_reducible refine below_via (by assumption) ?_ ?_); focus (first | exact Nat.le_refl _ | omega | (simp; done) | (simp; omega)))))
end Go.Proofs.YtkhgaenffnoimaaGreatDoor
