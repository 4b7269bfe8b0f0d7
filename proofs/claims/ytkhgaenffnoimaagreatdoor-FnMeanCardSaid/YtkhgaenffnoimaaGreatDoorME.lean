/- COUNT of one matrix. -/
import Derived.Test.YtkhgaenffnoimaaGreatDoorMD
import Derived.Deep.RegionWith
set_option linter.unusedSimpArgs false
set_option linter.unusedVariables false
namespace Go.Proofs.YtkhgaenffnoimaaGreatDoor
open Go.RowKit FL
attribute [local go_sem] run_store_float as64
theorem Z64.but {w w1 : World} {b c : Nat} (h : Z64 w b) (hb : But c w w1) (hn : b ≠ c) : Z64 w1 b :=
  ⟨Nat.lt_of_lt_of_le h.lt hb.size, (hb.cell h.lt hn).trans h.c0, (hb.cell h.lt hn).trans h.c1, (hb.cell h.lt hn).trans h.c2, (hb.cell h.lt hn).trans h.c3, (hb.cell h.lt hn).trans h.c4, (hb.cell h.lt hn).trans h.c5, (hb.cell h.lt hn).trans h.c6, (hb.cell h.lt hn).trans h.c7, (hb.cell h.lt hn).trans h.c8, (hb.cell h.lt hn).trans h.c9, fun o => (hb.frozen h.lt hn).trans (h.fr o)⟩
set_option maxRecDepth 100000 in
set_option maxHeartbeats 1000000 in
theorem c50M (ks : List Int) (A : Option Addr) (n c L1 L2 B L e0 : Nat) (p : Value) (w : World) (hl : n ≤ 120) (h0 : 0 < n) (hlen : n = ks.length) (hkk : ∀ k, k ∈ ks → -9999 ≤ k ∧ k ≤ 9999) (hx : FM w B ks A L1 L2)
    (hd : DL w L [e0] [.iface 68 (fM A n c L1 L2)]) :
    Calls Tryz.prog 50 #[p, .pointer (some ⟨L, 0, none⟩)] w (Ret w (fN (floatOfInt FloatKind.f64 (n : Int)))) := by
  have HD := Lib.hid hd
  have H69 : Hid (∀ W b p, Below w.heap.size w W → Box W b (.int .i64 0) → Box W p (cloC b p) → p ≠ b → Calls Tryz.prog 69 #[.agg #[.string ⟨#[]⟩, .float .f64 0, .string ⟨#[]⟩, .slice none 0 0, .slice A n c, .bool false, .string ⟨#[]⟩, .int .u8 4, .pointer (some ⟨L1, 0, none⟩), .pointer (some ⟨L2, 0, none⟩)], .bool false, .pointer (some ⟨b, 0, none⟩), .pointer (some ⟨p, 0, none⟩)] W (fun e w' => e = .returned (.tuple #[]) ∧ But b W w' ∧ Box w' b (.int .i64 n))) :=
    Lib.hid fun W b p hb h1 h2 h3 => c69M ks A n c L1 L2 B b p W hl h0 hlen hkk (hx.below hb) h1 h2 h3
  have H63 : Hid (∀ W, Calls Tryz.prog 63 #[.float .f64 (floatOfInt FloatKind.f64 (n : Int))] W (Ret W (fN (floatOfInt FloatKind.f64 (n : Int))))) := Lib.hid fun W => c63' _ W (foi_ok _ (by omega))
  obtain ⟨hb1, hb2, hb3, hb4, hb5, hb6⟩ := hd.el 0 e0 rfl
  have e3 : w.cell? ⟨e0, 3, none⟩ = some (.iface 68 (.agg #[.string ⟨#[]⟩, .float .f64 0, .string ⟨#[]⟩, .slice none 0 0, .slice A n c, .bool false, .string ⟨#[]⟩, .int .u8 4, .pointer (some ⟨L1, 0, none⟩), .pointer (some ⟨L2, 0, none⟩)])) := hb5
  clear hx hkk hlen hb3 hb4 hb5 hb6 hd hb2
  go_enter Tryz.func50, Tryz.ntmps50
  go_wp2_with fail
  have hbA : Below w.heap.size w (((w.alloc (.cells #[.string ⟨#[]⟩, .float .f64 0, .string ⟨#[]⟩, .slice none 0 0, .slice none 0 0, .bool false, .string ⟨#[]⟩, .int .u8 0, .pointer none, .pointer none] 68)).alloc (.cells #[.int .i64 0] 3)).alloc (.cells #[.func (.func 69) #[] #[.pointer (some ⟨w.heap.size + 1, 0, none⟩), .pointer (some ⟨w.heap.size + 1 + 1, 0, none⟩)]] 94)) := (by repeat (first | (with_reducible exact Below.refl _ _) | (with_reducible assumption) | ((with_reducible refine Below.alloc ?_ ?_ _); rotate_left; focus (first | exact Nat.le_refl _ | omega | (simp; done) | (simp; omega))) | ((with_reducible refine Below.setCell ?_ ?_ _); rotate_left; focus (first | exact Nat.le_refl _ | omega | (simp; done) | (simp; omega))) | (with_reducible refine Below.drew ?_) | (with_reducible refine below_drewN ?_ _) | ((with_reducible refine below_via (by assumption) ?_ ?_); focus (first | exact Nat.le_refl _ | omega | (simp; done) | (simp; omega)))))
  have hsA : (((w.alloc (.cells #[.string ⟨#[]⟩, .float .f64 0, .string ⟨#[]⟩, .slice none 0 0, .slice none 0 0, .bool false, .string ⟨#[]⟩, .int .u8 0, .pointer none, .pointer none] 68)).alloc (.cells #[.int .i64 0] 3)).alloc (.cells #[.func (.func 69) #[] #[.pointer (some ⟨w.heap.size + 1, 0, none⟩), .pointer (some ⟨w.heap.size + 1 + 1, 0, none⟩)]] 94)).heap.size = w.heap.size + 3 := by simp
  have HZ : Hid (Z64 (((w.alloc (.cells #[.string ⟨#[]⟩, .float .f64 0, .string ⟨#[]⟩, .slice none 0 0, .slice none 0 0, .bool false, .string ⟨#[]⟩, .int .u8 0, .pointer none, .pointer none] 68)).alloc (.cells #[.int .i64 0] 3)).alloc (.cells #[.func (.func 69) #[] #[.pointer (some ⟨w.heap.size + 1, 0, none⟩), .pointer (some ⟨w.heap.size + 1 + 1, 0, none⟩)]] 94)) w.heap.size) := Lib.hid (((z64_new w 68).below (w1 := w.alloc (.cells #[.string ⟨#[]⟩, .float .f64 0, .string ⟨#[]⟩, .slice none 0 0, .slice none 0 0, .bool false, .string ⟨#[]⟩, .int .u8 0, .pointer none, .pointer none] 68)) (Below.refl _ _)).below (by repeat (first | (with_reducible exact Below.refl _ _) | (with_reducible assumption) | ((with_reducible refine Below.alloc ?_ ?_ _); rotate_left; focus (first | exact Nat.le_refl _ | omega | (simp; done) | (simp; omega))) | ((with_reducible refine Below.setCell ?_ ?_ _); rotate_left; focus (first | exact Nat.le_refl _ | omega | (simp; done) | (simp; omega))) | (with_reducible refine Below.drew ?_) | (with_reducible refine below_drewN ?_ _) | ((with_reducible refine below_via (by assumption) ?_ ?_); focus (first | exact Nat.le_refl _ | omega | (simp; done) | (simp; omega))))))
  have HB : Hid (Box (((w.alloc (.cells #[.string ⟨#[]⟩, .float .f64 0, .string ⟨#[]⟩, .slice none 0 0, .slice none 0 0, .bool false, .string ⟨#[]⟩, .int .u8 0, .pointer none, .pointer none] 68)).alloc (.cells #[.int .i64 0] 3)).alloc (.cells #[.func (.func 69) #[] #[.pointer (some ⟨w.heap.size + 1, 0, none⟩), .pointer (some ⟨w.heap.size + 1 + 1, 0, none⟩)]] 94)) (w.heap.size + 1) (.int .i64 0)) := Lib.hid ⟨by simp, by simp [go_sem], fun o => by simp [go_sem]⟩
  have HP : Hid (Box (((w.alloc (.cells #[.string ⟨#[]⟩, .float .f64 0, .string ⟨#[]⟩, .slice none 0 0, .slice none 0 0, .bool false, .string ⟨#[]⟩, .int .u8 0, .pointer none, .pointer none] 68)).alloc (.cells #[.int .i64 0] 3)).alloc (.cells #[.func (.func 69) #[] #[.pointer (some ⟨w.heap.size + 1, 0, none⟩), .pointer (some ⟨w.heap.size + 1 + 1, 0, none⟩)]] 94)) (w.heap.size + 1 + 1) (cloC (w.heap.size + 1) (w.heap.size + 1 + 1))) := Lib.hid ⟨by simp, by simp [go_sem, cloC], fun o => by simp [go_sem]⟩
  generalize (((w.alloc (.cells #[.string ⟨#[]⟩, .float .f64 0, .string ⟨#[]⟩, .slice none 0 0, .slice none 0 0, .bool false, .string ⟨#[]⟩, .int .u8 0, .pointer none, .pointer none] 68)).alloc (.cells #[.int .i64 0] 3)).alloc (.cells #[.func (.func 69) #[] #[.pointer (some ⟨w.heap.size + 1, 0, none⟩), .pointer (some ⟨w.heap.size + 1 + 1, 0, none⟩)]] 94)) = W1 at hbA hsA HZ HB HP ⊢
  refine (c59 L [e0] _ W1 (HD.out.below hbA) (by simp)).mono ?_
  rintro e w1 ⟨rfl, rfl⟩
  go_wp2_with fail
  have he0 : e0 < w1.heap.size := Nat.lt_of_lt_of_le hb1 hbA.size
  have e3' := (hbA.cell (p := ⟨e0, 3, none⟩) hb1).trans e3
  have ep : w1.cell? ⟨w.heap.size + 1 + 1, 0, none⟩ = some (.func (.func 69) #[] #[.pointer (some ⟨w.heap.size + 1, 0, none⟩), .pointer (some ⟨w.heap.size + 1 + 1, 0, none⟩)]) := HP.out.cell
  refine wp_loop_rounds 2 ?_
  rw [rounds_succ]
  go_wp2_with fail
  have hdr : Below w1.heap.size w1 w1.drew := Below.drew (Below.refl _ _)
  have HBd := Lib.hid (HB.out.below hdr)
  have HPd := Lib.hid (HP.out.below hdr)
  have hbAd : Below w.heap.size w w1.drew := Below.drew hbA
  go_region_with (go_at_call 69; refine (H69.out w1.drew (w.heap.size + 1) (w.heap.size + 1 + 1) hbAd HBd.out HPd.out (by omega)).mono ?_; rintro e w3 ⟨rfl, hbt, hbx⟩; have HX := Lib.hid hbx; clear hbx)
  all_goals
    have hb3 : Below w.heap.size w w3 := hbAd.trans (hbt.below (by omega) (by show w.heap.size ≤ w1.heap.size; omega))
    have HD3 := HD.out.below hb3
    have HZ3 : Hid (Z64 w3 w.heap.size) := Lib.hid ((HZ.out.below hdr).but hbt (by omega))
  all_goals go_wp2_with fail
  all_goals
    refine (c60 L [e0] _ 0 e0 w3 HD3 rfl).mono ?_
    rintro e w4 ⟨rfl, rfl⟩
    rw [elP_none (i := 0 + 1) (by simp)]
  all_goals go_wp2_with fail
  all_goals rw [rounds_succ]
  all_goals
    have eb := HX.out.cell
    have eblt := HX.out.lt
  all_goals go_wp2_with fail
  all_goals
    refine (H63.out w4).mono ?_
    rintro e w5 ⟨rfl, hb5⟩
    have hb5w : Below w.heap.size w w5 := keepS hb5 hb3
    obtain ⟨zl, z0, z1, z2, z3, z4, z5, z6, z7, z8, z9, zf⟩ := HZ3.out.below hb5
    unfold fN
  all_goals go_wp2_with fail
  all_goals (refine bodyPost_ret (v := .agg #[.string ⟨#[]⟩, .float .f64 (floatOfInt FloatKind.f64 (n : Int)), .string ⟨#[]⟩, .slice none 0 0, .slice none 0 0, .bool false, .string ⟨#[]⟩, .int .u8 1, .pointer none, .pointer none]) ?_ rfl ?_; (focus (first | (simp [results, Tryz.results50, go_sem, hc1, hz1]; done) | (simp [results, Tryz.results50, go_sem]; done) | (simp [results, Tryz.results50, go_sem, *]; done))); exact ret_mk (by repeat (first | (with_reducible exact Below.refl _ _) | (with_reducible assumption) | ((with_reducible refine Below.alloc ?_ ?_ _); rotate_left; focus (first | exact Nat.le_refl _ | omega | (simp; done) | (simp; omega))) | ((with_reducible refine Below.setCell ?_ ?_ _); rotate_left; focus (first | exact Nat.le_refl _ | omega | (simp; done) | (simp; omega))) | (with_reducible refine Below.drew ?_) | (with_reducible refine below_drewN ?_ _) | ((with_reducible refine below_via (by assumption) ?_ ?_); focus (first | exact Nat.le_refl _ | omega | (simp; done) | (simp; omega))))))
end Go.Proofs.YtkhgaenffnoimaaGreatDoor
