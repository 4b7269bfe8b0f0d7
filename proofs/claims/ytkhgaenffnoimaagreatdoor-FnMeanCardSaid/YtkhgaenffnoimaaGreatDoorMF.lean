/- SUM of one matrix. -/
import Derived.Test.YtkhgaenffnoimaaGreatDoorME
set_option linter.unusedSimpArgs false
set_option linter.unusedVariables false
namespace Go.Proofs.YtkhgaenffnoimaaGreatDoor
open Go.RowKit FL
attribute [local go_sem] run_store_float as64
set_option maxRecDepth 100000 in
set_option maxHeartbeats 1000000 in
theorem c73N (x y z b : Nat) (p : Value) (w : World) (hs : ∀ W, (binOp BinOp.add 24 (.float FloatKind.f64 y) (.float FloatKind.f64 x)).run Tryz.prog W = .ok (.float FloatKind.f64 z) W) (hb : Box w b (.float .f64 y)) :
    Calls Tryz.prog 73 #[.agg #[.string ⟨#[]⟩, .float .f64 x, .string ⟨#[]⟩, .slice none 0 0, .slice none 0 0, .bool false, .string ⟨#[]⟩, .int .u8 1, .pointer none, .pointer none], .bool true, .pointer (some ⟨b, 0, none⟩), p] w (fun e w' => e = .returned (.tuple #[]) ∧ But b w w' ∧ Box w' b (.float .f64 z)) := by
  have HB := Lib.hid hb
  obtain ⟨b0, b1, b2⟩ := hb
  have hne : ¬ (w.heap.size = b) := by omega
  go_enter Tryz.func73, Tryz.ntmps73
  go_wp2_with fail
  exact bodyPost_end (v := .tuple #[]) (by simp [results, Tryz.results73, go_sem]) rfl ⟨rfl, ((But.refl b w).set 0 (.float .f64 z)).alloc _, (HB.out.set (.float .f64 z)).below (by repeat (first | (with_reducible exact Below.refl _ _) | (with_reducible assumption) | ((with_reducible refine Below.alloc ?_ ?_ _); rotate_left; focus (first | exact Nat.le_refl _ | omega | (simp; done) | (simp; omega))) | ((with_reducible refine Below.setCell ?_ ?_ _); rotate_left; focus (first | exact Nat.le_refl _ | omega | (simp; done) | (simp; omega))) | (with_reducible refine Below.drew ?_) | (with_reducible refine below_drewN ?_ _) | ((with_reducible refine below_via (by assumption) ?_ ?_); focus (first | exact Nat.le_refl _ | omega | (simp; done) | (simp; omega)))))⟩
/-- The closure of SUM. -/
def cloS (b p : Nat) : Value := .func (.func 73) #[] #[.pointer (some ⟨b, 0, none⟩), .pointer (some ⟨p, 0, none⟩)]
set_option maxRecDepth 100000 in
set_option maxHeartbeats 1000000 in
theorem c73M (ks : List Int) (A : Option Addr) (n c L1 L2 B b p : Nat) (w : World) (hl : n ≤ 120) (h0 : 0 < n) (hlen : n = ks.length) (hkk : ∀ k, k ∈ ks → -9999 ≤ k ∧ k ≤ 9999) (hx : FM w B ks A L1 L2)
    (hb : Box w b (.float .f64 0)) (hp : Box w p (cloS b p)) (hbp : p ≠ b) :
    Calls Tryz.prog 73 #[.agg #[.string ⟨#[]⟩, .float .f64 0, .string ⟨#[]⟩, .slice none 0 0, .slice A n c, .bool false, .string ⟨#[]⟩, .int .u8 4, .pointer (some ⟨L1, 0, none⟩), .pointer (some ⟨L2, 0, none⟩)], .bool false, .pointer (some ⟨b, 0, none⟩), .pointer (some ⟨p, 0, none⟩)] w (fun e w' => e = .returned (.tuple #[]) ∧ But b w w' ∧ Box w' b (.float .f64 (F16 (16 * ks.sum)))) := by
  have H72 : Hid (∀ W, Below w.heap.size w W → Calls Tryz.prog 72 #[.agg #[.string ⟨#[]⟩, .float .f64 0, .string ⟨#[]⟩, .slice none 0 0, .slice A n c, .bool false, .string ⟨#[]⟩, .int .u8 4, .pointer (some ⟨L1, 0, none⟩), .pointer (some ⟨L2, 0, none⟩)]] W (fun e w' => ∃ (A' : Option Addr) (c' : Nat), e = .returned (.slice A' n c') ∧ CRow w' A' 10 (fNs ks) ∧ (∀ g, A' = some ⟨g, 0, none⟩ → W.heap.size ≤ g) ∧ Below W.heap.size W w')) :=
    Lib.hid fun W hb => c72M ks A n c L1 L2 B W hl h0 hlen (hx.below hb)
  have HB := Lib.hid hb
  have HP := Lib.hid hp
  have HL1 := Lib.hid hx.l1
  obtain ⟨bx, vx, _, hl2⟩ := hx.l2
  have HL2 := Lib.hid hl2
  have HN := Lib.hid hlen
  have HK := Lib.hid hkk
  have hblt := hb.lt
  have hplt := hp.lt
  clear hb hp hl2 hx hkk hlen
  go_enter Tryz.func73, Tryz.ntmps73
  go_wp2_with fail
  have hbA : Below w.heap.size w (w.alloc (.cells #[.string ⟨#[]⟩, .float .f64 0, .string ⟨#[]⟩, .slice none 0 0, .slice A n c, .bool false, .string ⟨#[]⟩, .int .u8 4, .pointer (some ⟨L1, 0, none⟩), .pointer (some ⟨L2, 0, none⟩)] 68)) := (by repeat (first | (with_reducible exact Below.refl _ _) | (with_reducible assumption) | ((with_reducible refine Below.alloc ?_ ?_ _); rotate_left; focus (first | exact Nat.le_refl _ | omega | (simp; done) | (simp; omega))) | ((with_reducible refine Below.setCell ?_ ?_ _); rotate_left; focus (first | exact Nat.le_refl _ | omega | (simp; done) | (simp; omega))) | (with_reducible refine Below.drew ?_) | (with_reducible refine below_drewN ?_ _) | ((with_reducible refine below_via (by assumption) ?_ ?_); focus (first | exact Nat.le_refl _ | omega | (simp; done) | (simp; omega)))))
  have HL1' := HL1.out.below hbA
  have HL2' := HL2.out.below hbA
  refine (c70 L1 [] [] _ HL1').mono ?_
  rintro e w1 ⟨rfl, rfl⟩
  go_wp2_with fail
  refine (c70 L2 [bx] [vx] _ HL2').mono ?_
  rintro e w1 ⟨rfl, rfl⟩
  go_wp2_with fail
  clear HL1' HL2'
  refine (H72.out _ hbA).mono ?_
  rintro e w2 ⟨A', c', rfl, hcr, hge, hb2⟩
  have hbw2 : Below w.heap.size w w2 := keepS hb2 hbA
  have HCR := Lib.hid hcr
  clear hcr hb2
  have HB2 := Lib.hid (HB.out.below hbw2)
  have HP2 := Lib.hid (HP.out.below hbw2)
  have hs2 := hbw2.size
  rcases HCR.out with h | ⟨g, rfl, hg, hc⟩
  · have := fNs_len ks
    have := HN.out
    rw [h] at *
    simp at *
    omega
  have HC := Lib.hid hc
  clear hc
  have hgb : g ≠ b := by
    have h1 := hge g rfl
    have h2 := hbA.size
    simp at h1
    omega
  clear hge
  go_wp2_with fail
  go_loopw [63] (fun i wr => ∃ q : Nat, q ≤ n ∧ i = .int .i64 q ∧ But b w2 wr ∧ Box wr b (.float .f64 (F16 (16 * (ks.take q).sum)))) (fun i _ => n - (intOf i).toNat)
  case atStart => exact ⟨0, Nat.zero_le _, rfl, But.refl _ _, by simpa [F16_zero] using HB2.out⟩
  case round =>
    obtain ⟨q, hq, rfl, hbt, hbx⟩ := hrel
    have hwr := hbt.size
    have HX := Lib.hid hbx
    clear hbx
    by_cases hlt : q < n
    · obtain ⟨k, hkq⟩ : ∃ k, ks[q]? = some k := ⟨_, List.getElem?_eq_getElem (by rw [← HN.out]; exact hlt)⟩
      have hcell : ∀ (i : Nat) (u : Value), (fNc (floatOfInt FloatKind.f64 k))[i]? = some u → wr.cell? ⟨g, q * 10 + i, none⟩ = some u := fun i u hu => (hbt.cell hg hgb).trans (HC.out q _ (by unfold fNs; rw [List.getElem?_map, hkq]; rfl) i u hu)
      have hkb := HK.out k (List.mem_of_getElem? hkq)
      have htb := take_bound HK.out q (by omega)
      have HS : Hid ((ks.take (q + 1)).sum = (ks.take q).sum + k) := Lib.hid (take_sum hkq)
      have hf : floatOfInt FloatKind.f64 k = F16 (16 * k) := foi_F16 k (by omega)
      have e0 := hcell 0 _ rfl
      have e1 := hcell 1 _ rfl
      have e2 := hcell 2 _ rfl
      have e3 := hcell 3 _ rfl
      have e4 := hcell 4 _ rfl
      have e5 := hcell 5 _ rfl
      have e6 := hcell 6 _ rfl
      have e7 := hcell 7 _ rfl
      have e8 := hcell 8 _ rfl
      have e9 := hcell 9 _ rfl
      simp only [Nat.add_zero] at e0
      clear hcell
      rw [hf] at e1
      generalize (ks.take q).sum = s at htb HS HX ⊢
      have hs1 : ∀ W, (binOp BinOp.add 24 (.float FloatKind.f64 (F16 (16 * s))) (.float FloatKind.f64 (F16 (16 * k)))).run Tryz.prog W = .ok (.float FloatKind.f64 (F16 (16 * s + 16 * k))) W := fun W => run_add_F16 _ _ _ _ rfl rfl (by omega) (by omega) W
      have HS1 := Lib.hid hs1
      clear hs1 hf
      have hgr : g < wr.heap.size := by omega
      have hpr : p < wr.heap.size := by omega
      have ep : wr.cell? ⟨p, 0, none⟩ = some (.func (.func 73) #[] #[.pointer (some ⟨b, 0, none⟩), .pointer (some ⟨p, 0, none⟩)]) := (HP2.out.but hbt hbp).cell
      clear hkq
      go_wp2_with fail
      have HXa := HX.out.below (w1 := wr.alloc (.cells #[.string ⟨#[]⟩, .float .f64 (F16 (16 * k)), .string ⟨#[]⟩, .slice none 0 0, .slice none 0 0, .bool false, .string ⟨#[]⟩, .int .u8 1, .pointer none, .pointer none] 68)) (by repeat (first | (with_reducible exact Below.refl _ _) | (with_reducible assumption) | ((with_reducible refine Below.alloc ?_ ?_ _); rotate_left; focus (first | exact Nat.le_refl _ | omega | (simp; done) | (simp; omega))) | ((with_reducible refine Below.setCell ?_ ?_ _); rotate_left; focus (first | exact Nat.le_refl _ | omega | (simp; done) | (simp; omega))) | (with_reducible refine Below.drew ?_) | (with_reducible refine below_drewN ?_ _) | ((with_reducible refine below_via (by assumption) ?_ ?_); focus (first | exact Nat.le_refl _ | omega | (simp; done) | (simp; omega)))))
      refine (c73N (F16 (16 * k)) (F16 (16 * s)) (F16 (16 * s + 16 * k)) b _ _ HS1.out HXa).mono ?_
      rintro e w3 ⟨rfl, hb3, hx3⟩
      have hbt3 : But b w2 w3 := (hbt.alloc _).trans hb3
      have HX3 := Lib.hid hx3
      clear hx3 hb3 HXa
      go_wp2_with fail
      refine ⟨⟨q + 1, by omega, by simp, hbt3, ?_⟩, by simp only [intOf]; omega⟩
      rw [HS.out, Int.mul_add]
      exact HX3.out
    · have hqn : q = n := by omega
      subst hqn
      have htk : List.take q ks = ks := by rw [HN.out, List.take_length]
      rw [htk] at HX
      go_wp2_with fail
      exact bodyPost_end (v := .tuple #[]) (by simp [results, Tryz.results73, go_sem]) rfl ⟨rfl, (But.of hbw2).trans hbt, HX.out⟩
set_option maxRecDepth 100000 in
set_option maxHeartbeats 1000000 in
theorem c51M (ks : List Int) (A : Option Addr) (n c L1 L2 B L e0 : Nat) (p : Value) (w : World) (hl : n ≤ 120) (h0 : 0 < n) (hlen : n = ks.length) (hkk : ∀ k, k ∈ ks → -9999 ≤ k ∧ k ≤ 9999) (hx : FM w B ks A L1 L2)
    (hd : DL w L [e0] [.iface 68 (fM A n c L1 L2)]) :
    Calls Tryz.prog 51 #[p, .pointer (some ⟨L, 0, none⟩)] w (Ret w (fN (F16 (16 * ks.sum)))) := by
  have HD := Lib.hid hd
  have H73 : Hid (∀ W b p, Below w.heap.size w W → Box W b (.float .f64 0) → Box W p (cloS b p) → p ≠ b → Calls Tryz.prog 73 #[.agg #[.string ⟨#[]⟩, .float .f64 0, .string ⟨#[]⟩, .slice none 0 0, .slice A n c, .bool false, .string ⟨#[]⟩, .int .u8 4, .pointer (some ⟨L1, 0, none⟩), .pointer (some ⟨L2, 0, none⟩)], .bool false, .pointer (some ⟨b, 0, none⟩), .pointer (some ⟨p, 0, none⟩)] W (fun e w' => e = .returned (.tuple #[]) ∧ But b W w' ∧ Box w' b (.float .f64 (F16 (16 * ks.sum))))) :=
    Lib.hid fun W b p hb h1 h2 h3 => c73M ks A n c L1 L2 B b p W hl h0 hlen hkk (hx.below hb) h1 h2 h3
  have hsb := sum_bound ks hkk
  rw [← hlen] at hsb
  have H63 : Hid (∀ W, Calls Tryz.prog 63 #[.float .f64 (F16 (16 * ks.sum))] W (Ret W (fN (F16 (16 * ks.sum))))) := Lib.hid fun W => c63' _ W (fok_F16 _ (by omega))
  obtain ⟨hb1, hb2, hb3, hb4, hb5, hb6⟩ := hd.el 0 e0 rfl
  have e3 : w.cell? ⟨e0, 3, none⟩ = some (.iface 68 (.agg #[.string ⟨#[]⟩, .float .f64 0, .string ⟨#[]⟩, .slice none 0 0, .slice A n c, .bool false, .string ⟨#[]⟩, .int .u8 4, .pointer (some ⟨L1, 0, none⟩), .pointer (some ⟨L2, 0, none⟩)])) := hb5
  clear hsb
  generalize F16 (16 * ks.sum) = fs at H63 H73 ⊢
  clear hx hkk hlen hb3 hb4 hb5 hb6 hd hb2
  go_enter Tryz.func51, Tryz.ntmps51
  go_wp2_with fail
  have hbA : Below w.heap.size w (((w.alloc (.cells #[.string ⟨#[]⟩, .float .f64 0, .string ⟨#[]⟩, .slice none 0 0, .slice none 0 0, .bool false, .string ⟨#[]⟩, .int .u8 0, .pointer none, .pointer none] 68)).alloc (.cells #[.float .f64 0] 24)).alloc (.cells #[.func (.func 73) #[] #[.pointer (some ⟨w.heap.size + 1, 0, none⟩), .pointer (some ⟨w.heap.size + 1 + 1, 0, none⟩)]] 94)) := (by repeat (first | (with_reducible exact Below.refl _ _) | (with_reducible assumption) | ((with_reducible refine Below.alloc ?_ ?_ _); rotate_left; focus (first | exact Nat.le_refl _ | omega | (simp; done) | (simp; omega))) | ((with_reducible refine Below.setCell ?_ ?_ _); rotate_left; focus (first | exact Nat.le_refl _ | omega | (simp; done) | (simp; omega))) | (with_reducible refine Below.drew ?_) | (with_reducible refine below_drewN ?_ _) | ((with_reducible refine below_via (by assumption) ?_ ?_); focus (first | exact Nat.le_refl _ | omega | (simp; done) | (simp; omega)))))
  have hsA : (((w.alloc (.cells #[.string ⟨#[]⟩, .float .f64 0, .string ⟨#[]⟩, .slice none 0 0, .slice none 0 0, .bool false, .string ⟨#[]⟩, .int .u8 0, .pointer none, .pointer none] 68)).alloc (.cells #[.float .f64 0] 24)).alloc (.cells #[.func (.func 73) #[] #[.pointer (some ⟨w.heap.size + 1, 0, none⟩), .pointer (some ⟨w.heap.size + 1 + 1, 0, none⟩)]] 94)).heap.size = w.heap.size + 3 := by simp
  have HZ : Hid (Z64 (((w.alloc (.cells #[.string ⟨#[]⟩, .float .f64 0, .string ⟨#[]⟩, .slice none 0 0, .slice none 0 0, .bool false, .string ⟨#[]⟩, .int .u8 0, .pointer none, .pointer none] 68)).alloc (.cells #[.float .f64 0] 24)).alloc (.cells #[.func (.func 73) #[] #[.pointer (some ⟨w.heap.size + 1, 0, none⟩), .pointer (some ⟨w.heap.size + 1 + 1, 0, none⟩)]] 94)) w.heap.size) := Lib.hid (((z64_new w 68).below (w1 := w.alloc (.cells #[.string ⟨#[]⟩, .float .f64 0, .string ⟨#[]⟩, .slice none 0 0, .slice none 0 0, .bool false, .string ⟨#[]⟩, .int .u8 0, .pointer none, .pointer none] 68)) (Below.refl _ _)).below (by repeat (first | (with_reducible exact Below.refl _ _) | (with_reducible assumption) | ((with_reducible refine Below.alloc ?_ ?_ _); rotate_left; focus (first | exact Nat.le_refl _ | omega | (simp; done) | (simp; omega))) | ((with_reducible refine Below.setCell ?_ ?_ _); rotate_left; focus (first | exact Nat.le_refl _ | omega | (simp; done) | (simp; omega))) | (with_reducible refine Below.drew ?_) | (with_reducible refine below_drewN ?_ _) | ((with_reducible refine below_via (by assumption) ?_ ?_); focus (first | exact Nat.le_refl _ | omega | (simp; done) | (simp; omega))))))
  have HB : Hid (Box (((w.alloc (.cells #[.string ⟨#[]⟩, .float .f64 0, .string ⟨#[]⟩, .slice none 0 0, .slice none 0 0, .bool false, .string ⟨#[]⟩, .int .u8 0, .pointer none, .pointer none] 68)).alloc (.cells #[.float .f64 0] 24)).alloc (.cells #[.func (.func 73) #[] #[.pointer (some ⟨w.heap.size + 1, 0, none⟩), .pointer (some ⟨w.heap.size + 1 + 1, 0, none⟩)]] 94)) (w.heap.size + 1) (.float .f64 0)) := Lib.hid ⟨by simp, by simp [go_sem], fun o => by simp [go_sem]⟩
  have HP : Hid (Box (((w.alloc (.cells #[.string ⟨#[]⟩, .float .f64 0, .string ⟨#[]⟩, .slice none 0 0, .slice none 0 0, .bool false, .string ⟨#[]⟩, .int .u8 0, .pointer none, .pointer none] 68)).alloc (.cells #[.float .f64 0] 24)).alloc (.cells #[.func (.func 73) #[] #[.pointer (some ⟨w.heap.size + 1, 0, none⟩), .pointer (some ⟨w.heap.size + 1 + 1, 0, none⟩)]] 94)) (w.heap.size + 1 + 1) (cloS (w.heap.size + 1) (w.heap.size + 1 + 1))) := Lib.hid ⟨by simp, by simp [go_sem, cloS], fun o => by simp [go_sem]⟩
  generalize (((w.alloc (.cells #[.string ⟨#[]⟩, .float .f64 0, .string ⟨#[]⟩, .slice none 0 0, .slice none 0 0, .bool false, .string ⟨#[]⟩, .int .u8 0, .pointer none, .pointer none] 68)).alloc (.cells #[.float .f64 0] 24)).alloc (.cells #[.func (.func 73) #[] #[.pointer (some ⟨w.heap.size + 1, 0, none⟩), .pointer (some ⟨w.heap.size + 1 + 1, 0, none⟩)]] 94)) = W1 at hbA hsA HZ HB HP ⊢
  refine (c59 L [e0] _ W1 (HD.out.below hbA) (by simp)).mono ?_
  rintro e w1 ⟨rfl, rfl⟩
  go_wp2_with fail
  have he0 : e0 < w1.heap.size := Nat.lt_of_lt_of_le hb1 hbA.size
  have e3' := (hbA.cell (p := ⟨e0, 3, none⟩) hb1).trans e3
  have ep : w1.cell? ⟨w.heap.size + 1 + 1, 0, none⟩ = some (.func (.func 73) #[] #[.pointer (some ⟨w.heap.size + 1, 0, none⟩), .pointer (some ⟨w.heap.size + 1 + 1, 0, none⟩)]) := HP.out.cell
  refine wp_loop_rounds 2 ?_
  rw [rounds_succ]
  go_wp2_with fail
  have hba : Below w1.heap.size w1 (w1.alloc (.cells #[.string ⟨#[]⟩, .float .f64 0, .string ⟨#[]⟩, .slice none 0 0, .slice A n c, .bool false, .string ⟨#[]⟩, .int .u8 4, .pointer (some ⟨L1, 0, none⟩), .pointer (some ⟨L2, 0, none⟩)] 68)) := (by repeat (first | (with_reducible exact Below.refl _ _) | (with_reducible assumption) | ((with_reducible refine Below.alloc ?_ ?_ _); rotate_left; focus (first | exact Nat.le_refl _ | omega | (simp; done) | (simp; omega))) | ((with_reducible refine Below.setCell ?_ ?_ _); rotate_left; focus (first | exact Nat.le_refl _ | omega | (simp; done) | (simp; omega))) | (with_reducible refine Below.drew ?_) | (with_reducible refine below_drewN ?_ _) | ((with_reducible refine below_via (by assumption) ?_ ?_); focus (first | exact Nat.le_refl _ | omega | (simp; done) | (simp; omega)))))
  have hsa : (w1.alloc (.cells #[.string ⟨#[]⟩, .float .f64 0, .string ⟨#[]⟩, .slice none 0 0, .slice A n c, .bool false, .string ⟨#[]⟩, .int .u8 4, .pointer (some ⟨L1, 0, none⟩), .pointer (some ⟨L2, 0, none⟩)] 68)).heap.size = w1.heap.size + 1 := by simp
  generalize (w1.alloc (.cells #[.string ⟨#[]⟩, .float .f64 0, .string ⟨#[]⟩, .slice none 0 0, .slice A n c, .bool false, .string ⟨#[]⟩, .int .u8 4, .pointer (some ⟨L1, 0, none⟩), .pointer (some ⟨L2, 0, none⟩)] 68)) = w2 at hba hsa ⊢
  have HBd := Lib.hid (HB.out.below hba)
  have HPd := Lib.hid (HP.out.below hba)
  have hbAd : Below w.heap.size w w2 := keepS hba hbA
  refine (H73.out w2 (w.heap.size + 1) (w.heap.size + 1 + 1) hbAd HBd.out HPd.out (by omega)).mono ?_
  rintro e w3 ⟨rfl, hbt, hbx⟩
  have HX := Lib.hid hbx
  clear hbx
  have hb3 : Below w.heap.size w w3 := hbAd.trans (hbt.below (by omega) (by omega))
  have HD3 := HD.out.below hb3
  have HZ3 : Hid (Z64 w3 w.heap.size) := Lib.hid ((HZ.out.below hba).but hbt (by omega))
  go_wp2_with fail
  refine (c60 L [e0] _ 0 e0 w3 HD3 rfl).mono ?_
  rintro e w4 ⟨rfl, rfl⟩
  rw [elP_none (i := 0 + 1) (by simp)]
  go_wp2_with fail
  rw [rounds_succ]
  have eb := HX.out.cell
  have eblt := HX.out.lt
  go_wp2_with fail
  refine (H63.out w4).mono ?_
  rintro e w5 ⟨rfl, hb5⟩
  have hb5w : Below w.heap.size w w5 := keepS hb5 hb3
  obtain ⟨zl, z0, z1, z2, z3, z4, z5, z6, z7, z8, z9, zf⟩ := HZ3.out.below hb5
  unfold fN
  go_wp2_with fail
  (refine bodyPost_ret (v := .agg #[.string ⟨#[]⟩, .float .f64 fs, .string ⟨#[]⟩, .slice none 0 0, .slice none 0 0, .bool false, .string ⟨#[]⟩, .int .u8 1, .pointer none, .pointer none]) ?_ rfl ?_; (focus (first | (simp [results, Tryz.results51, go_sem, hc1, hz1]; done) | (simp [results, Tryz.results51, go_sem]; done) | (simp [results, Tryz.results51, go_sem, *]; done))); exact ret_mk (by repeat (first | (with_reducible exact Below.refl _ _) | (with_reducible assumption) | ((with_reducible refine Below.alloc ?_ ?_ _); rotate_left; focus (first | exact Nat.le_refl _ | omega | (simp; done) | (simp; omega))) | ((with_reducible refine Below.setCell ?_ ?_ _); rotate_left; focus (first | exact Nat.le_refl _ | omega | (simp; done) | (simp; omega))) | (with_reducible refine Below.drew ?_) | (with_reducible refine below_drewN ?_ _) | ((with_reducible refine below_via (by assumption) ?_ ?_); focus (first | exact Nat.le_refl _ | omega | (simp; done) | (simp; omega))))))
end Go.Proofs.YtkhgaenffnoimaaGreatDoor
