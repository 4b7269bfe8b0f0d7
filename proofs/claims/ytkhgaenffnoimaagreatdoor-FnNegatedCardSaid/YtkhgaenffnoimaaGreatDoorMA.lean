/- countSum over numbers, over one matrix. -/
import Derived.Test.YtkhgaenffnoimaaGreatDoorM9
set_option linter.unusedSimpArgs false
set_option linter.unusedVariables false
namespace Go.Proofs.YtkhgaenffnoimaaGreatDoor
open Go.RowKit FL
attribute [local go_sem] run_store_float as64
theorem sum_bound : ∀ (ks : List Int), (∀ k, k ∈ ks → -9999 ≤ k ∧ k ≤ 9999) → -(9999 * (ks.length : Int)) ≤ ks.sum ∧ ks.sum ≤ 9999 * (ks.length : Int)
  | [], _ => by simp
  | k :: ks, h => by
    have h1 := sum_bound ks (fun x hx => h x (by simp [hx]))
    have h2 := h k (by simp)
    simp only [List.sum_cons, List.length_cons]
    omega
theorem take_bound {ks : List Int} (h : ∀ k, k ∈ ks → -9999 ≤ k ∧ k ≤ 9999) (q : Nat) (hq : q ≤ 120) : -1199880 ≤ (ks.take q).sum ∧ (ks.take q).sum ≤ 1199880 := by
  have h1 := sum_bound (ks.take q) (fun x hx => h x (List.mem_of_mem_take hx))
  have h2 : (ks.take q).length ≤ 120 := by rw [List.length_take]; omega
  omega
theorem take_sum {ks : List Int} {q : Nat} {k : Int} (h : ks[q]? = some k) : (ks.take (q + 1)).sum = (ks.take q).sum + k := by
  rw [take_succ_of h, List.sum_append]
  simp
theorem run_add_F16 (a b : Int) (x y : Nat) (hx : x = F16 a) (hy : y = F16 b) (ha : a.natAbs < 562949953421312) (hb : b.natAbs < 562949953421312) (W : World) :
    (binOp BinOp.add 24 (.float FloatKind.f64 x) (.float FloatKind.f64 y)).run Tryz.prog W = .ok (.float FloatKind.f64 (F16 (a + b))) W := by
  subst hx hy
  exact run_float_arith W _ _ _ _ _ _ (add_F16 a b (by omega) (by omega) (by omega))
theorem one_F16 : (4607182418800017408 : Nat) = F16 16 := by rw [← foi1, foi_F16 1 (by decide)]; rfl
set_option maxRecDepth 100000 in
set_option maxHeartbeats 1000000 in
theorem c61N (ks : List Int) (A : Option Addr) (n c : Nat) (p : Value) (w : World) (hl : n ≤ 120) (h0 : 0 < n) (hlen : n = ks.length) (hkk : ∀ k, k ∈ ks → -9999 ≤ k ∧ k ≤ 9999) (hx : CRow w A 10 (fNs ks)) :
    Calls Tryz.prog 61 #[p, .bool false, .slice A n c] w (Ret w (.tuple #[.float .f64 (F16 (16 * (n : Int))), .float .f64 (F16 (16 * ks.sum))])) := by
  rcases hx with h | ⟨g, rfl, hg, hc⟩
  · have := fNs_len ks
    rw [h] at this
    simp at this
    omega
  have HC := Lib.hid hc
  have HK := Lib.hid hkk
  have HN := Lib.hid hlen
  clear hc hkk hlen
  go_enter Tryz.func61, Tryz.ntmps61
  go_wp2_with fail
  go_loopw [6, 7, 16] (fun cc s i wr => ∃ q : Nat, q ≤ n ∧ cc = .float .f64 (F16 (16 * (q : Int))) ∧ s = .float .f64 (F16 (16 * (ks.take q).sum)) ∧ i = .int .i64 q ∧ Below w.heap.size w wr) (fun _ _ i _ => n - (intOf i).toNat)
  case atStart => exact ⟨0, Nat.zero_le _, by simp [F16_zero], by simp [F16_zero], rfl, Below.refl _ _⟩
  case round =>
    obtain ⟨q, hq, rfl, rfl, rfl, hb⟩ := hrel
    have hwr := hb.size
    by_cases hlt : q < n
    · obtain ⟨k, hkq⟩ : ∃ k, ks[q]? = some k := ⟨_, List.getElem?_eq_getElem (by rw [← HN.out]; exact hlt)⟩
      have hkb := HK.out k (List.mem_of_getElem? hkq)
      have htb := take_bound HK.out q (by omega)
      have hcell : ∀ (i : Nat) (u : Value), (fNc (floatOfInt FloatKind.f64 k))[i]? = some u → wr.cell? ⟨g, q * 10 + i, none⟩ = some u := fun i u hu => (hb.cell (p := ⟨g, _, none⟩) hg).trans (HC.out q _ (by unfold fNs; rw [List.getElem?_map, hkq]; rfl) i u hu)
      have e0 := hcell 0 _ rfl
      have e1 := hcell 1 _ rfl
      have e2 := hcell 2 _ rfl
      have e3 := hcell 3 _ rfl
      have e4 := hcell 4 _ rfl
      have e5 := hcell 5 _ rfl
      have e6 := hcell 6 _ rfl
      have e7 := hcell 7 _ rfl
      have e8 := hcell 8 _ rfl
      have e9 := hcell 9 _ rfl
      simp only [Nat.add_zero] at e0
      clear hcell
      have hgr : g < wr.heap.size := by omega
      have hf : floatOfInt FloatKind.f64 k = F16 (16 * k) := foi_F16 k (by omega)
      rw [hf] at e1
      have HS : Hid ((ks.take (q + 1)).sum = (ks.take q).sum + k) := Lib.hid (take_sum hkq)
      generalize (ks.take q).sum = s at htb HS ⊢
      have hs1 : ∀ W, (binOp BinOp.add 24 (.float FloatKind.f64 (F16 (16 * s))) (.float FloatKind.f64 (F16 (16 * k)))).run Tryz.prog W = .ok (.float FloatKind.f64 (F16 (16 * s + 16 * k))) W := fun W => run_add_F16 _ _ _ _ rfl rfl (by omega) (by omega) W
      have hs2 : ∀ W, (binOp BinOp.add 24 (.float FloatKind.f64 (F16 (16 * (q : Int)))) (.float FloatKind.f64 4607182418800017408)).run Tryz.prog W = .ok (.float FloatKind.f64 (F16 (16 * (q : Int) + 16))) W := fun W => run_add_F16 _ _ _ _ rfl one_F16 (by omega) (by omega) W
      clear hkq hf
      go_wp2_with fail
      refine ⟨⟨q + 1, by omega, ?_, ?_, by simp, (by repeat (first | (with_reducible exact Below.refl _ _) | (with_reducible assumption) | ((with_reducible refine Below.alloc ?_ ?_ _); rotate_left; focus (first | exact Nat.le_refl _ | omega | (simp; done) | (simp; omega))) | ((with_reducible refine Below.setCell ?_ ?_ _); rotate_left; focus (first | exact Nat.le_refl _ | omega | (simp; done) | (simp; omega))) | (with_reducible refine Below.drew ?_) | (with_reducible refine below_drewN ?_ _) | ((with_reducible refine below_via (by assumption) ?_ ?_); focus (first | exact Nat.le_refl _ | omega | (simp; done) | (simp; omega)))))⟩, by simp only [intOf]; omega⟩
      · first | (congr 2; done) | (congr 2; omega)
      · rw [HS.out]
        congr 2
        omega
    · have hqn : q = n := by omega
      subst hqn
      have htk : List.take q ks = ks := by rw [HN.out, List.take_length]
      rw [htk]
      go_wp2_with fail
      go_ret2
      exact ret_mk hb
/-- The cells of a matrix as a formula argument. -/
def fMc (A : Option Addr) (n c L1 L2 : Nat) : List Value := [.string ⟨#[]⟩, .float .f64 0, .string ⟨#[]⟩, .slice none 0 0, .slice A n c, .bool false, .string ⟨#[]⟩, .int .u8 4, .pointer (some ⟨L1, 0, none⟩), .pointer (some ⟨L2, 0, none⟩)]
set_option maxRecDepth 100000 in
set_option maxHeartbeats 1000000 in
theorem c61M (ks : List Int) (A : Option Addr) (n c L1 L2 B g c0 : Nat) (p : Value) (w : World) (hl : n ≤ 120) (h0 : 0 < n) (hlen : n = ks.length) (hkk : ∀ k, k ∈ ks → -9999 ≤ k ∧ k ≤ 9999) (hx : FM w B ks A L1 L2)
    (hg : g < w.heap.size) (hc : ∀ (i : Nat) (u : Value), (fMc A n c L1 L2)[i]? = some u → w.cell? ⟨g, i, none⟩ = some u) :
    Calls Tryz.prog 61 #[p, .bool false, .slice (some ⟨g, 0, none⟩) 1 c0] w (Ret w (.tuple #[.float .f64 (F16 (16 * (n : Int))), .float .f64 (F16 (16 * ks.sum))])) := by
  have H72 : Hid (∀ W, Below w.heap.size w W → Calls Tryz.prog 72 #[.agg #[.string ⟨#[]⟩, .float .f64 0, .string ⟨#[]⟩, .slice none 0 0, .slice A n c, .bool false, .string ⟨#[]⟩, .int .u8 4, .pointer (some ⟨L1, 0, none⟩), .pointer (some ⟨L2, 0, none⟩)]] W (fun e w' => ∃ (A' : Option Addr) (c' : Nat), e = .returned (.slice A' n c') ∧ CRow w' A' 10 (fNs ks) ∧ (∀ g, A' = some ⟨g, 0, none⟩ → W.heap.size ≤ g) ∧ Below W.heap.size W w')) :=
    Lib.hid fun W hb => c72M ks A n c L1 L2 B W hl h0 hlen (hx.below hb)
  have H61 : Hid (∀ A c W, CRow W A 10 (fNs ks) → Calls Tryz.prog 61 #[p, .bool false, .slice A n c] W (Ret W (.tuple #[.float .f64 (F16 (16 * (n : Int))), .float .f64 (F16 (16 * ks.sum))]))) := Lib.hid fun A c W h => c61N ks A n c p W hl h0 hlen hkk h
  have hsb := sum_bound ks hkk
  rw [← hlen] at hsb
  have e0 := hc 0 _ rfl
  have e1 := hc 1 _ rfl
  have e2 := hc 2 _ rfl
  have e3 := hc 3 _ rfl
  have e4 := hc 4 _ rfl
  have e5 := hc 5 _ rfl
  have e6 := hc 6 _ rfl
  have e7 := hc 7 _ rfl
  have e8 := hc 8 _ rfl
  have e9 := hc 9 _ rfl
  have hs1 : ∀ W, (binOp BinOp.add 24 (.float FloatKind.f64 0) (.float FloatKind.f64 (F16 (16 * ks.sum)))).run Tryz.prog W = .ok (.float FloatKind.f64 (F16 (16 * ks.sum))) W := fun W => by
    have := run_add_F16 0 (16 * ks.sum) 0 _ F16_zero.symm rfl (by omega) (by omega) W
    rw [Int.zero_add] at this
    exact this
  have hs2 : ∀ W, (binOp BinOp.add 24 (.float FloatKind.f64 0) (.float FloatKind.f64 (F16 (16 * (n : Int))))).run Tryz.prog W = .ok (.float FloatKind.f64 (F16 (16 * (n : Int)))) W := fun W => by
    have := run_add_F16 0 (16 * (n : Int)) 0 _ F16_zero.symm rfl (by omega) (by omega) W
    rw [Int.zero_add] at this
    exact this
  clear hc hx hkk hlen hsb
  generalize F16 (16 * ks.sum) = fs at H61 hs1 ⊢
  generalize F16 (16 * (n : Int)) = fn at H61 hs2 ⊢
  go_enter Tryz.func61, Tryz.ntmps61
  go_wp2_with fail
  refine wp_loop_rounds 2 ?_
  rw [rounds_succ]
  go_wp2_with fail
  have hbA : Below w.heap.size w (w.alloc (.cells #[.string ⟨#[]⟩, .float .f64 0, .string ⟨#[]⟩, .slice none 0 0, .slice A n c, .bool false, .string ⟨#[]⟩, .int .u8 4, .pointer (some ⟨L1, 0, none⟩), .pointer (some ⟨L2, 0, none⟩)] 68)) := (by repeat (first | (with_reducible exact Below.refl _ _) | (with_reducible assumption) | ((with_reducible refine Below.alloc ?_ ?_ _); rotate_left; focus (first | exact Nat.le_refl _ | omega | (simp; done) | (simp; omega))) | ((with_reducible refine Below.setCell ?_ ?_ _); rotate_left; focus (first | exact Nat.le_refl _ | omega | (simp; done) | (simp; omega))) | (with_reducible refine Below.drew ?_) | (with_reducible refine below_drewN ?_ _) | ((with_reducible refine below_via (by assumption) ?_ ?_); focus (first | exact Nat.le_refl _ | omega | (simp; done) | (simp; omega)))))
  generalize (w.alloc (.cells #[.string ⟨#[]⟩, .float .f64 0, .string ⟨#[]⟩, .slice none 0 0, .slice A n c, .bool false, .string ⟨#[]⟩, .int .u8 4, .pointer (some ⟨L1, 0, none⟩), .pointer (some ⟨L2, 0, none⟩)] 68)) = W1 at hbA ⊢
  refine (H72.out W1 hbA).mono ?_
  rintro e w2 ⟨A', c', rfl, hcr, hge, hb2⟩
  have HCR := Lib.hid hcr
  clear hcr hge
  have hb2w : Below w.heap.size w w2 := keepS hb2 hbA
  go_wp2_with fail
  refine (H61.out A' c' w2 HCR.out).mono ?_
  rintro e w3 ⟨rfl, hb3⟩
  have hb3w : Below w.heap.size w w3 := keepS hb3 hb2w
  go_wp2_with fail
  rw [rounds_succ]
  go_wp2_with fail
  go_ret2
  exact ret_mk hb3w
end Go.Proofs.YtkhgaenffnoimaaGreatDoor
