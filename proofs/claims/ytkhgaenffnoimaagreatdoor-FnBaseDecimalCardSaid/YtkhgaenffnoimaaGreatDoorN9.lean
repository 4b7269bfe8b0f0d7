/- said, Frac, Same, Str, argWhole. -/
import Derived.Test.YtkhgaenffnoimaaGreatDoorN8
set_option linter.unusedSimpArgs false
set_option linter.unusedVariables false
namespace Go.Proofs.YtkhgaenffnoimaaGreatDoor
open Go.RowKit FL
attribute [local go_sem] run_store_float as64
set_option maxRecDepth 100000 in
set_option maxHeartbeats 1000000 in
theorem c18 (n : Int) (w : World) (h0 : -99999999999 ≤ n) (h1 : n ≤ 99999999999) : Calls Tryz.prog 18 #[.int .i64 n] w (Ret w (.agg #[.int .i64 1, .int .i64 n, .int .i64 1, .string ⟨#[]⟩, .slice none 0 0])) := by
  go_enter Tryz.func18, Tryz.ntmps18
  go_wp2_with fail
  have hbA : Below w.heap.size w (w.alloc (.cells #[.int .i64 0, .int .i64 0, .int .i64 0, .string ⟨#[]⟩, .slice none 0 0] 32)) := (by repeat (first | (with_reducible exact Below.refl _ _) | (with_reducible assumption) | ((with_reducible refine Below.alloc ?_ ?_ _); rotate_left; focus (first | exact Nat.le_refl _ | omega | (simp; done) | (simp; omega))) | ((with_reducible refine Below.setCell ?_ ?_ _); rotate_left; focus (first | exact Nat.le_refl _ | omega | (simp; done) | (simp; omega))) | (with_reducible refine Below.drew ?_) | (with_reducible refine below_drewN ?_ _) | ((with_reducible refine below_via (by assumption) ?_ ?_); focus (first | exact Nat.le_refl _ | omega | (simp; done) | (simp; omega)))))
  have HZ := Lib.hid (zcell_new w)
  generalize (w.alloc (.cells #[.int .i64 0, .int .i64 0, .int .i64 0, .string ⟨#[]⟩, .slice none 0 0] 32)) = W1 at hbA HZ ⊢
  refine (c14 n W1 h0 h1).mono ?_
  rintro e w1 ⟨rfl, hb1⟩
  have hb1w : Below w.heap.size w w1 := keepS hb1 hbA
  obtain ⟨hzl, z0, z1, z2, z3, z4, hfr⟩ := HZ.out.below HZ.out.lt hb1
  go_wp2_with fail
  (refine bodyPost_ret (v := .agg #[.int .i64 1, .int .i64 n, .int .i64 1, .string ⟨#[]⟩, .slice none 0 0]) ?_ rfl ?_; (focus (first | (simp [results, Tryz.results18, go_sem, hc1, hz1]; done) | (simp [results, Tryz.results18, go_sem]; done) | (simp [results, Tryz.results18, go_sem, *]; done))); exact ret_mk (by repeat (first | (with_reducible exact Below.refl _ _) | (with_reducible assumption) | ((with_reducible refine Below.alloc ?_ ?_ _); rotate_left; focus (first | exact Nat.le_refl _ | omega | (simp; done) | (simp; omega))) | ((with_reducible refine Below.setCell ?_ ?_ _); rotate_left; focus (first | exact Nat.le_refl _ | omega | (simp; done) | (simp; omega))) | (with_reducible refine Below.drew ?_) | (with_reducible refine below_drewN ?_ _) | ((with_reducible refine below_via (by assumption) ?_ ?_); focus (first | exact Nat.le_refl _ | omega | (simp; done) | (simp; omega))))))
set_option maxRecDepth 100000 in
set_option maxHeartbeats 1000000 in
theorem c17 (t : ByteArray) (w : World) : Calls Tryz.prog 17 #[.string t] w (Ret w (.agg #[.int .i64 2, .int .i64 0, .int .i64 0, .string t, .slice none 0 0])) := by
  go_enter Tryz.func17, Tryz.ntmps17
  go_wp2_with fail
  exact bodyPost_ret (v := .agg #[.int .i64 2, .int .i64 0, .int .i64 0, .string t, .slice none 0 0]) (by first | (simp [results, Tryz.results17, go_sem, hc1, hz1]; done) | (simp [results, Tryz.results17, go_sem]; done) | (simp [results, Tryz.results17, go_sem, *]; done)) rfl (ret_mk (by repeat (first | (with_reducible exact Below.refl _ _) | (with_reducible assumption) | ((with_reducible refine Below.alloc ?_ ?_ _); rotate_left; focus (first | exact Nat.le_refl _ | omega | (simp; done) | (simp; omega))) | ((with_reducible refine Below.setCell ?_ ?_ _); rotate_left; focus (first | exact Nat.le_refl _ | omega | (simp; done) | (simp; omega))) | (with_reducible refine Below.drew ?_) | (with_reducible refine below_drewN ?_ _) | ((with_reducible refine below_via (by assumption) ?_ ?_); focus (first | exact Nat.le_refl _ | omega | (simp; done) | (simp; omega))))))
set_option maxRecDepth 100000 in
set_option maxHeartbeats 1000000 in
theorem c36 (m : Nat) (w : World) (h1 : m ≤ 99999999999) : Calls Tryz.prog 36 #[.int .i64 (16 * (m : Int)), .int .i64 16] w (Ret w (.agg #[.int .i64 1, .int .i64 (m : Int), .int .i64 1, .string ⟨#[]⟩, .slice none 0 0])) := by
  go_enter Tryz.func36, Tryz.ntmps36
  go_wp2_with fail
  refine wp_loop_rounds 5 ?_
  rw [rounds_succ]
  go_wp2_with fail
  rw [rounds_succ]
  go_wp2_with fail
  rw [rounds_succ]
  go_wp2_with fail
  rw [rounds_succ]
  go_wp2_with fail
  rw [rounds_succ]
  go_wp2_with fail
  rw [show (16 * (m : Int) / 2 / 2 / 2 / 2) = (m : Int) by omega]
  (refine bodyPost_ret (v := .agg #[.int .i64 1, .int .i64 (m : Int), .int .i64 1, .string ⟨#[]⟩, .slice none 0 0]) ?_ rfl ?_; (focus (first | (simp [results, Tryz.results36, go_sem, hc1, hz1]; done) | (simp [results, Tryz.results36, go_sem]; done) | (simp [results, Tryz.results36, go_sem, *]; done))); exact ret_mk (by repeat (first | (with_reducible exact Below.refl _ _) | (with_reducible assumption) | ((with_reducible refine Below.alloc ?_ ?_ _); rotate_left; focus (first | exact Nat.le_refl _ | omega | (simp; done) | (simp; omega))) | ((with_reducible refine Below.setCell ?_ ?_ _); rotate_left; focus (first | exact Nat.le_refl _ | omega | (simp; done) | (simp; omega))) | (with_reducible refine Below.drew ?_) | (with_reducible refine below_drewN ?_ _) | ((with_reducible refine below_via (by assumption) ?_ ?_); focus (first | exact Nat.le_refl _ | omega | (simp; done) | (simp; omega))))))
set_option maxRecDepth 100000 in
set_option maxHeartbeats 1000000 in
theorem c21 (k n d : Int) (t : ByteArray) (w : World) : Calls Tryz.prog 21 #[.agg #[.int .i64 k, .int .i64 n, .int .i64 d, .string t, .slice none 0 0], .agg #[.int .i64 k, .int .i64 n, .int .i64 d, .string t, .slice none 0 0]] w (Ret w (.bool true)) := by
  go_enter Tryz.func21, Tryz.ntmps21
  go_wp2_with fail
  refine wp_loop_rounds 1 ?_
  rw [rounds_succ]
  go_wp2_with fail
  go_ret
  exact ret_mk (by repeat (first | (with_reducible exact Below.refl _ _) | (with_reducible assumption) | ((with_reducible refine Below.alloc ?_ ?_ _); rotate_left; focus (first | exact Nat.le_refl _ | omega | (simp; done) | (simp; omega))) | ((with_reducible refine Below.setCell ?_ ?_ _); rotate_left; focus (first | exact Nat.le_refl _ | omega | (simp; done) | (simp; omega))) | (with_reducible refine Below.drew ?_) | (with_reducible refine below_drewN ?_ _) | ((with_reducible refine below_via (by assumption) ?_ ?_); focus (first | exact Nat.le_refl _ | omega | (simp; done) | (simp; omega)))))
/-- said of a function that answers a text. -/
theorem c19pre (F : Nat) (ofI : V → I) (xs : List V) (A : Option Addr) (c : Nat) (w : World) (r : I) (hl : xs.length ≤ 1000) (h0 : 0 < xs.length) (hx : VRow w A xs)
    (hf : ∀ v, v ∈ xs → ∀ w', Calls Tryz.prog 44 #[.agg #[.int .i64 v.k, .int .i64 v.n, .int .i64 v.d, .string v.t, .slice none 0 0]] w' (Ret w' (.agg #[.int .i64 (ofI v).k, .float .f64 (ofI v).b, .string (ofI v).t, .slice none 0 0])))
    (hF : ∀ W A' c', Below w.heap.size w W → IRow W A' (xs.map ofI) → Calls Tryz.prog F #[.slice A' (xs.map ofI).length c'] W (Ret W (.agg #[.int .i64 r.k, .float .f64 r.b, .string r.t, .slice none 0 0]))) :
    (∀ W, Below w.heap.size w W → Calls Tryz.prog 26 #[.slice A xs.length c] W (fun e w' => ∃ A' c', e = .returned (.slice A' xs.length c') ∧ IRow w' A' (xs.map ofI) ∧ Below W.heap.size W w')) ∧
    (∀ W A' c', Below w.heap.size w W → IRow W A' (xs.map ofI) → Calls Tryz.prog F #[.slice A' xs.length c'] W (Ret W (.agg #[.int .i64 r.k, .float .f64 r.b, .string r.t, .slice none 0 0]))) := by
  refine ⟨fun W hb => (c26 ofI xs A c W hl h0 (hx.below hb) hf).mono fun e w' ⟨A', c', he, h1, h2⟩ => ⟨A', c', by rw [he, List.length_map], h1, h2⟩, fun W A' c' hb hi => ?_⟩
  have := hF W A' c' hb hi
  rw [List.length_map] at this
  exact this
set_option maxRecDepth 100000 in
set_option maxHeartbeats 1000000 in
theorem c19T (F : Nat) (ofI : V → I) (xs : List V) (A : Option Addr) (c : Nat) (w : World) (t : ByteArray) (hl : xs.length ≤ 1000) (h0 : 0 < xs.length) (hx : VRow w A xs)
    (hf : ∀ v, v ∈ xs → ∀ w', Calls Tryz.prog 44 #[.agg #[.int .i64 v.k, .int .i64 v.n, .int .i64 v.d, .string v.t, .slice none 0 0]] w' (Ret w' (.agg #[.int .i64 (ofI v).k, .float .f64 (ofI v).b, .string (ofI v).t, .slice none 0 0])))
    (hent : ∀ (args : Array Value) (W : World), (callFunc F args).run Tryz.prog W = .ok (.enter F args) W)
    (hF : ∀ W A' c', Below w.heap.size w W → IRow W A' (xs.map ofI) → Calls Tryz.prog F #[.slice A' (xs.map ofI).length c'] W (Ret W (.agg #[.int .i64 2, .float .f64 0, .string t, .slice none 0 0]))) :
    Calls Tryz.prog 19 #[.func (.func F) #[] #[], .slice A xs.length c] w (Ret w (.agg #[.int .i64 2, .int .i64 0, .int .i64 0, .string t, .slice none 0 0])) := by
  obtain ⟨h26, hFF⟩ := c19pre F ofI xs A c w ⟨2, 0, t⟩ hl h0 hx hf hF
  have H26 := Lib.hid h26
  have HF := Lib.hid hFF
  clear hF hf hx h26 hFF
  obtain ⟨n, hn⟩ : ∃ n, n = xs.length := ⟨_, rfl⟩
  rw [← hn] at H26 HF ⊢
  clear hn hl h0
  go_enter Tryz.func19, Tryz.ntmps19
  go_wp2_with fail
  have hbA : Below w.heap.size w (w.alloc (.cells #[.int .i64 0, .int .i64 0, .int .i64 0, .string ⟨#[]⟩, .slice none 0 0] 32)) := (by repeat (first | (with_reducible exact Below.refl _ _) | (with_reducible assumption) | ((with_reducible refine Below.alloc ?_ ?_ _); rotate_left; focus (first | exact Nat.le_refl _ | omega | (simp; done) | (simp; omega))) | ((with_reducible refine Below.setCell ?_ ?_ _); rotate_left; focus (first | exact Nat.le_refl _ | omega | (simp; done) | (simp; omega))) | (with_reducible refine Below.drew ?_) | (with_reducible refine below_drewN ?_ _) | ((with_reducible refine below_via (by assumption) ?_ ?_); focus (first | exact Nat.le_refl _ | omega | (simp; done) | (simp; omega)))))
  have HZ := Lib.hid (zcell_new w)
  generalize (w.alloc (.cells #[.int .i64 0, .int .i64 0, .int .i64 0, .string ⟨#[]⟩, .slice none 0 0] 32)) = W1 at hbA HZ ⊢
  refine (H26.out W1 hbA).mono ?_
  rintro e w1 ⟨A', c', rfl, hi, hb1⟩
  have hb1w : Below w.heap.size w w1 := keepS hb1 hbA
  have HZ1 := Lib.hid (HZ.out.below HZ.out.lt hb1)
  have HI := Lib.hid hi
  clear hi
  go_wp2_with fail
  refine (HF.out w1 A' c' hb1w HI.out).mono ?_
  rintro e w2 ⟨rfl, hb2⟩
  have hb2w : Below w.heap.size w w2 := keepS hb2 hb1w
  have HZ2 := Lib.hid (HZ1.out.below HZ1.out.lt hb2)
  have hw2 : w.heap.size < w2.heap.size := HZ2.out.lt
  go_wp2_with fail
  have HZ3 := Lib.hid (HZ2.out.below (w1 := w2.alloc (.cells #[.int .i64 2, .float .f64 0, .string t, .slice none 0 0] 27)) HZ2.out.lt (by repeat (first | (with_reducible exact Below.refl _ _) | (with_reducible assumption) | ((with_reducible refine Below.alloc ?_ ?_ _); rotate_left; focus (first | exact Nat.le_refl _ | omega | (simp; done) | (simp; omega))) | ((with_reducible refine Below.setCell ?_ ?_ _); rotate_left; focus (first | exact Nat.le_refl _ | omega | (simp; done) | (simp; omega))) | (with_reducible refine Below.drew ?_) | (with_reducible refine below_drewN ?_ _) | ((with_reducible refine below_via (by assumption) ?_ ?_); focus (first | exact Nat.le_refl _ | omega | (simp; done) | (simp; omega))))))
  refine (c17 t _).mono ?_
  rintro e w4 ⟨rfl, hb4⟩
  have hb4w : Below w.heap.size w w4 := keepS hb4 (hb2w.alloc hb2w.size _)
  obtain ⟨hzl, z0, z1, z2, z3, z4, hfr⟩ := HZ3.out.below HZ3.out.lt hb4
  go_wp2_with fail
  (refine bodyPost_ret (v := .agg #[.int .i64 2, .int .i64 0, .int .i64 0, .string t, .slice none 0 0]) ?_ rfl ?_; (focus (first | (simp [results, Tryz.results19, go_sem, hc1, hz1]; done) | (simp [results, Tryz.results19, go_sem]; done) | (simp [results, Tryz.results19, go_sem, *]; done))); exact ret_mk (by repeat (first | (with_reducible exact Below.refl _ _) | (with_reducible assumption) | ((with_reducible refine Below.alloc ?_ ?_ _); rotate_left; focus (first | exact Nat.le_refl _ | omega | (simp; done) | (simp; omega))) | ((with_reducible refine Below.setCell ?_ ?_ _); rotate_left; focus (first | exact Nat.le_refl _ | omega | (simp; done) | (simp; omega))) | (with_reducible refine Below.drew ?_) | (with_reducible refine below_drewN ?_ _) | ((with_reducible refine below_via (by assumption) ?_ ?_); focus (first | exact Nat.le_refl _ | omega | (simp; done) | (simp; omega))))))
end Go.Proofs.YtkhgaenffnoimaaGreatDoor
