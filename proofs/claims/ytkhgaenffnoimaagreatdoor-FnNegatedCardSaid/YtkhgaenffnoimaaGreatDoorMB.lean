/- AVERAGE of one matrix. -/
import Derived.Test.YtkhgaenffnoimaaGreatDoorMA
set_option linter.unusedSimpArgs false
set_option linter.unusedVariables false
namespace Go.Proofs.YtkhgaenffnoimaaGreatDoor
open Go.RowKit FL
attribute [local go_sem] run_store_float as64
theorem fok_F16 (n : Int) (h : n.natAbs < 9007199254740992) : FOK (F16 n) := by
  refine ⟨?_, fun h0 => ?_⟩
  · have := order_F16 n n h h
    rw [show FloatKind.f64.format = Ieee.double from rfl, this]
    simp [compare, compareOfLessAndEq]
  · have h3 := order_F16 n 0 h (by decide)
    rw [F16_zero] at h3
    rw [show FloatKind.f64.format = Ieee.double from rfl, h3] at h0
    have h4 : compare n 0 = Ordering.eq := Option.some.inj h0
    have h5 : n = 0 := by
      simp only [compare, compareOfLessAndEq] at h4
      split at h4
      · cases h4
      · split at h4
        · assumption
        · cases h4
    rw [h5]
    exact F16_zero
theorem ne0_F16 (n : Int) (h : n.natAbs < 9007199254740992) (h0 : n ≠ 0) : (FloatKind.f64.format.order (F16 n) 0 == some Ordering.eq) = false := by
  have h3 := order_F16 n 0 h (by decide)
  rw [F16_zero] at h3
  rw [show FloatKind.f64.format = Ieee.double from rfl, h3]
  have : compare n 0 ≠ Ordering.eq := by
    intro h4
    simp only [compare, compareOfLessAndEq, if_neg h0] at h4
    split at h4 <;> cases h4
  simpa using this
theorem fMc_one (A : Option Addr) (n c L1 L2 : Nat) : ∀ u ∈ fMc A n c L1 L2, u.oneCell' = true := by
  intro u hu
  simp only [fMc, List.mem_cons, List.not_mem_nil, or_false] at hu
  rcases hu with rfl | rfl | rfl | rfl | rfl | rfl | rfl | rfl | rfl | rfl <;> rfl
set_option maxRecDepth 100000 in
set_option maxHeartbeats 1000000 in
theorem c47M (ks : List Int) (A : Option Addr) (n c L1 L2 B L b : Nat) (m : Int) (p : Value) (w : World) (hl : n ≤ 120) (h0 : 0 < n) (hlen : n = ks.length) (hkk : ∀ k, k ∈ ks → -9999 ≤ k ∧ k ≤ 9999) (hx : FM w B ks A L1 L2)
    (hd : DL w L [b] [.iface 68 (fM A n c L1 L2)]) (hm : (n : Int) * m = 4 * ks.sum) (hmb : m.natAbs ≤ 100000) :
    Calls Tryz.prog 47 #[p, .pointer (some ⟨L, 0, none⟩)] w (Ret w (fN (F16 (4 * m)))) := by
  have HD := Lib.hid hd
  have H61 : Hid (∀ W, Below w.heap.size w W → ∀ g c0, g < W.heap.size → (∀ (i : Nat) (u : Value), (fMc A n c L1 L2)[i]? = some u → W.cell? ⟨g, i, none⟩ = some u) → Calls Tryz.prog 61 #[p, .bool false, .slice (some ⟨g, 0, none⟩) 1 c0] W (Ret W (.tuple #[.float .f64 (F16 (16 * (n : Int))), .float .f64 (F16 (16 * ks.sum))]))) :=
    Lib.hid fun W hb g c0 hg hc => c61M ks A n c L1 L2 B g c0 p W hl h0 hlen hkk (hx.below hb) hg hc
  have hsb := sum_bound ks hkk
  rw [← hlen] at hsb
  have hq' := ne0_F16 (16 * (n : Int)) (by omega) (by omega)
  have hdiv : ∀ W, (binOp BinOp.quo 24 (.float FloatKind.f64 (F16 (16 * ks.sum))) (.float FloatKind.f64 (F16 (16 * (n : Int))))).run Tryz.prog W = .ok (.float FloatKind.f64 (F16 (4 * m))) W := fun W =>
    run_float_arith W _ _ _ _ _ _ (div_F16 (16 * ks.sum) (16 * (n : Int)) (4 * m) (by omega) (by omega) (by omega) (by omega) (by rw [Int.mul_assoc 16 (n : Int), Int.mul_left_comm (n : Int), hm]; omega))
  have H63 : Hid (∀ W, Calls Tryz.prog 63 #[.float .f64 (F16 (4 * m))] W (Ret W (fN (F16 (4 * m))))) := Lib.hid fun W => c63' _ W (fok_F16 (4 * m) (by omega))
  obtain ⟨hb1, hb2, hb3, hb4, hb5, hb6⟩ := hd.el 0 b rfl
  have e3 : w.cell? ⟨b, 3, none⟩ = some (.iface 68 (.agg #[.string ⟨#[]⟩, .float .f64 0, .string ⟨#[]⟩, .slice none 0 0, .slice A n c, .bool false, .string ⟨#[]⟩, .int .u8 4, .pointer (some ⟨L1, 0, none⟩), .pointer (some ⟨L2, 0, none⟩)])) := hb5
  clear hx hkk hlen hm hmb hsb hb3 hb4 hb5 hb6 hd hb2
  generalize F16 (16 * ks.sum) = fs at H61 hdiv
  generalize F16 (16 * (n : Int)) = fn at H61 hdiv hq'
  generalize F16 (4 * m) = fm at H63 hdiv ⊢
  go_enter Tryz.func47, Tryz.ntmps47
  go_wp2_with fail
  have hbA : Below w.heap.size w (w.alloc (.cells #[.string ⟨#[]⟩, .float .f64 0, .string ⟨#[]⟩, .slice none 0 0, .slice none 0 0, .bool false, .string ⟨#[]⟩, .int .u8 0, .pointer none, .pointer none] 68)) := (by repeat (first | (with_reducible exact Below.refl _ _) | (with_reducible assumption) | ((with_reducible refine Below.alloc ?_ ?_ _); rotate_left; focus (first | exact Nat.le_refl _ | omega | (simp; done) | (simp; omega))) | ((with_reducible refine Below.setCell ?_ ?_ _); rotate_left; focus (first | exact Nat.le_refl _ | omega | (simp; done) | (simp; omega))) | (with_reducible refine Below.drew ?_) | (with_reducible refine below_drewN ?_ _) | ((with_reducible refine below_via (by assumption) ?_ ?_); focus (first | exact Nat.le_refl _ | omega | (simp; done) | (simp; omega)))))
  have HZ := Lib.hid (z64_new w 68)
  generalize (w.alloc (.cells #[.string ⟨#[]⟩, .float .f64 0, .string ⟨#[]⟩, .slice none 0 0, .slice none 0 0, .bool false, .string ⟨#[]⟩, .int .u8 0, .pointer none, .pointer none] 68)) = W1 at hbA HZ ⊢
  refine (c59 L [b] _ W1 (HD.out.below hbA) (by simp)).mono ?_
  rintro e w1 ⟨rfl, rfl⟩
  go_wp2_with fail
  have hb1' : b < w1.heap.size := Nat.lt_of_lt_of_le hb1 hbA.size
  have e3' := (hbA.cell (p := ⟨b, 3, none⟩) hb1).trans e3
  refine wp_loop_rounds 2 ?_
  rw [rounds_succ]
  go_wp2_with (at_builtin; refine appOne rfl _ _ 63 68 _ 10 136 rfl under63 info68 rfl (by decide) (by decide) (by decide) (fMc A n c L1 L2) rfl (by first | rfl | (change Value.slice (some ⟨_, 0, none⟩) 1 1 = _; simp [World.setCell])) rfl (fMc_one _ _ _ _ _) ?_; intro g1 c1 w3 hg1 hg1l hcc1 hb3)
  have hb13 : Below w.heap.size w w3 := keepS hb3 hbA
  have HD3 := HD.out.below hb13
  have HZ3 := Lib.hid (HZ.out.below hb3)
  refine (c60 L [b] _ 0 b w3 HD3 rfl).mono ?_
  rintro e w4 ⟨rfl, rfl⟩
  rw [elP_none (i := 0 + 1) (by simp)]
  go_wp2_with fail
  rw [rounds_succ]
  go_wp2_with fail
  refine (H61.out w4 hb13 g1 c1 hg1l hcc1).mono ?_
  rintro e w5 ⟨rfl, hb5⟩
  have hb5w : Below w.heap.size w w5 := keepS hb5 hb13
  have HZ5 := Lib.hid (HZ3.out.below hb5)
  go_wp2_with fail
  refine (H63.out w5).mono ?_
  rintro e w6 ⟨rfl, hb6⟩
  have hb6w : Below w.heap.size w w6 := keepS hb6 hb5w
  obtain ⟨zl, z0, z1, z2, z3, z4, z5, z6, z7, z8, z9, zf⟩ := HZ5.out.below hb6
  unfold fN
  go_wp2_with fail
  (refine bodyPost_ret (v := .agg #[.string ⟨#[]⟩, .float .f64 fm, .string ⟨#[]⟩, .slice none 0 0, .slice none 0 0, .bool false, .string ⟨#[]⟩, .int .u8 1, .pointer none, .pointer none]) ?_ rfl ?_; (focus (first | (simp [results, Tryz.results47, go_sem, hc1, hz1]; done) | (simp [results, Tryz.results47, go_sem]; done) | (simp [results, Tryz.results47, go_sem, *]; done))); exact ret_mk (by repeat (first | (with_reducible exact Below.refl _ _) | (with_reducible assumption) | ((with_reducible refine Below.alloc ?_ ?_ _); rotate_left; focus (first | exact Nat.le_refl _ | omega | (simp; done) | (simp; omega))) | ((with_reducible refine Below.setCell ?_ ?_ _); rotate_left; focus (first | exact Nat.le_refl _ | omega | (simp; done) | (simp; omega))) | (with_reducible refine Below.drew ?_) | (with_reducible refine below_drewN ?_ _) | ((with_reducible refine below_via (by assumption) ?_ ?_); focus (first | exact Nat.le_refl _ | omega | (simp; done) | (simp; omega))))))
end Go.Proofs.YtkhgaenffnoimaaGreatDoor
