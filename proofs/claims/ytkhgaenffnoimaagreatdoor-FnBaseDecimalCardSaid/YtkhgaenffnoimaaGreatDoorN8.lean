/- The doors of BASE, DECIMAL, DEC2BIN, DEC2OCT, DEC2HEX. -/
import Derived.Test.YtkhgaenffnoimaaGreatDoorN7
set_option linter.unusedSimpArgs false
set_option linter.unusedVariables false
namespace Go.Proofs.YtkhgaenffnoimaaGreatDoor
open Go.RowKit FL
attribute [local go_sem] run_store_float as64
/-- A text or a number as a formula argument. -/
def fA (i : I) : Value := if i.k = 2 then fS i.t else fN i.b
def AOK (i : I) : Prop := i.k = 2 ∨ (i.k = 1 ∧ FOK i.b)
theorem c66A (i : I) (h : AOK i) (w : World) : Calls Tryz.prog 66 #[.agg #[.int .i64 i.k, .float .f64 i.b, .string i.t, .slice none 0 0]] w (Ret w (fA i)) := by
  obtain ⟨k, b, t⟩ := i
  rcases h with h | ⟨h, hb⟩
  · simp only at h
    subst h
    exact c66_2 b t w
  · simp only at h
    subst h
    exact c66_1 b t w hb
set_option maxRecDepth 100000 in
set_option maxHeartbeats 2000000 in
theorem c45_S (t : ByteArray) (w : World) : Calls Tryz.prog 45 #[fS t] w (Ret w (.agg #[.int .i64 2, .float .f64 0, .string t, .slice none 0 0])) := by
  unfold fS
  go_enter Tryz.func45, Tryz.ntmps45
  go_wp2_with fail
  exact bodyPost_ret (v := .agg #[.int .i64 2, .float .f64 0, .string t, .slice none 0 0]) (by first | (simp [results, Tryz.results45, go_sem, hc1, hz1]; done) | (simp [results, Tryz.results45, go_sem]; done) | (simp [results, Tryz.results45, go_sem, *]; done)) rfl (ret_mk (by repeat (first | (with_reducible exact Below.refl _ _) | (with_reducible assumption) | ((with_reducible refine Below.alloc ?_ ?_ _); rotate_left; focus (first | exact Nat.le_refl _ | omega | (simp; done) | (simp; omega))) | ((with_reducible refine Below.setCell ?_ ?_ _); rotate_left; focus (first | exact Nat.le_refl _ | omega | (simp; done) | (simp; omega))) | (with_reducible refine Below.drew ?_) | (with_reducible refine below_drewN ?_ _) | ((with_reducible refine below_via (by assumption) ?_ ?_); focus (first | exact Nat.le_refl _ | omega | (simp; done) | (simp; omega))))))
set_option maxRecDepth 100000 in
set_option maxHeartbeats 1000000 in
theorem c39 (v : Value) (r : I) (xs : List I) (A : Option Addr) (c : Nat) (w : World) (hl : xs.length ≤ 1000) (h0 : 0 < xs.length) (hx : IRow w A xs) (hk : ∀ i, i ∈ xs → AOK i)
    (hX : ∀ (W : World) (p : Option Addr) (L : Nat) (bs : List Nat), Below w.heap.size w W → bs.length = xs.length → DL W L bs (xs.map fun i => .iface 68 (fA i)) → Calls Tryz.prog 53 #[.pointer p, .pointer (some ⟨L, 0, none⟩)] W (Ret W v))
    (hr : ∀ W, Calls Tryz.prog 45 #[v] W (Ret W (.agg #[.int .i64 r.k, .float .f64 r.b, .string r.t, .slice none 0 0]))) :
    Calls Tryz.prog 39 #[.slice A xs.length c] w (Ret w (.agg #[.int .i64 r.k, .float .f64 r.b, .string r.t, .slice none 0 0])) := by
  have H48 : Hid (∀ W, Below w.heap.size w W → Calls Tryz.prog 48 #[.slice A xs.length c] W (fun e w' => ∃ L bs, e = .returned (.pointer (some ⟨L, 0, none⟩)) ∧ bs.length = xs.length ∧ DL w' L bs (xs.map fun i => .iface 68 (fA i)) ∧ Below W.heap.size W w')) :=
    Lib.hid fun W hb => c48 fA xs A c W hl h0 (hx.below hb) (fun i hi w' => c66A i (hk i hi) w')
  have HX := Lib.hid hX
  have HR := Lib.hid hr
  obtain ⟨n, hn⟩ : ∃ n, n = xs.length := ⟨_, rfl⟩
  rw [← hn] at H48 HX ⊢
  clear hx hX hr hk hn h0 hl
  go_enter Tryz.func39, Tryz.ntmps39
  go_wp2_with fail
  have hbA : Below w.heap.size w (w.alloc (.cells #[.int .i64 0, .float .f64 0, .string ⟨#[]⟩, .slice none 0 0] 52)) := (by repeat (first | (with_reducible exact Below.refl _ _) | (with_reducible assumption) | ((with_reducible refine Below.alloc ?_ ?_ _); rotate_left; focus (first | exact Nat.le_refl _ | omega | (simp; done) | (simp; omega))) | ((with_reducible refine Below.setCell ?_ ?_ _); rotate_left; focus (first | exact Nat.le_refl _ | omega | (simp; done) | (simp; omega))) | (with_reducible refine Below.drew ?_) | (with_reducible refine below_drewN ?_ _) | ((with_reducible refine below_via (by assumption) ?_ ?_); focus (first | exact Nat.le_refl _ | omega | (simp; done) | (simp; omega)))))
  have HZ := Lib.hid (zi_new w 52)
  generalize (w.alloc (.cells #[.int .i64 0, .float .f64 0, .string ⟨#[]⟩, .slice none 0 0] 52)) = W1 at hbA HZ ⊢
  refine (c46 W1).mono ?_
  rintro e w1 ⟨v, rfl, ⟨p, rfl⟩, hb1⟩
  have hb1w : Below w.heap.size w w1 := keepS hb1 hbA
  have HZ1 := Lib.hid (HZ.out.below hb1)
  go_wp2_with fail
  refine (H48.out w1 hb1w).mono ?_
  rintro e w2 ⟨L, bs, rfl, hbl, hd, hb2⟩
  have hb2w : Below w.heap.size w w2 := keepS hb2 hb1w
  have HZ2 := Lib.hid (HZ1.out.below hb2)
  have HD := Lib.hid hd
  have HL := Lib.hid hbl
  clear hd hbl
  go_wp2_with fail
  refine (HX.out w2 p L bs hb2w HL.out HD.out).mono ?_
  rintro e w3 ⟨rfl, hb3⟩
  have hb3w : Below w.heap.size w w3 := keepS hb3 hb2w
  have HZ3 := Lib.hid (HZ2.out.below hb3)
  go_wp2_with fail
  refine (HR.out w3).mono ?_
  rintro e w4 ⟨rfl, hb4⟩
  have hb4w : Below w.heap.size w w4 := keepS hb4 hb3w
  obtain ⟨zl, z0, z1, z2, z3, zf⟩ := HZ3.out.below hb4
  go_wp2_with fail
  (refine bodyPost_ret (v := .agg #[.int .i64 r.k, .float .f64 r.b, .string r.t, .slice none 0 0]) ?_ rfl ?_; (focus (first | (simp [results, Tryz.results39, go_sem, hc1, hz1]; done) | (simp [results, Tryz.results39, go_sem]; done) | (simp [results, Tryz.results39, go_sem, *]; done))); exact ret_mk (by repeat (first | (with_reducible exact Below.refl _ _) | (with_reducible assumption) | ((with_reducible refine Below.alloc ?_ ?_ _); rotate_left; focus (first | exact Nat.le_refl _ | omega | (simp; done) | (simp; omega))) | ((with_reducible refine Below.setCell ?_ ?_ _); rotate_left; focus (first | exact Nat.le_refl _ | omega | (simp; done) | (simp; omega))) | (with_reducible refine Below.drew ?_) | (with_reducible refine below_drewN ?_ _) | ((with_reducible refine below_via (by assumption) ?_ ?_); focus (first | exact Nat.le_refl _ | omega | (simp; done) | (simp; omega))))))
set_option maxRecDepth 100000 in
set_option maxHeartbeats 1000000 in
theorem c20 (v : Value) (r : I) (xs : List I) (A : Option Addr) (c : Nat) (w : World) (hl : xs.length ≤ 1000) (h0 : 0 < xs.length) (hx : IRow w A xs) (hk : ∀ i, i ∈ xs → AOK i)
    (hX : ∀ (W : World) (p : Option Addr) (L : Nat) (bs : List Nat), Below w.heap.size w W → bs.length = xs.length → DL W L bs (xs.map fun i => .iface 68 (fA i)) → Calls Tryz.prog 53 #[.pointer p, .pointer (some ⟨L, 0, none⟩)] W (Ret W v))
    (hr : ∀ W, Calls Tryz.prog 45 #[v] W (Ret W (.agg #[.int .i64 r.k, .float .f64 r.b, .string r.t, .slice none 0 0]))) :
    Calls Tryz.prog 20 #[.slice A xs.length c] w (Ret w (.agg #[.int .i64 r.k, .float .f64 r.b, .string r.t, .slice none 0 0])) := by
  have H29 : Hid (∀ W, Below w.heap.size w W → Calls Tryz.prog 29 #[.slice A xs.length c] W (RetI W xs)) := Lib.hid fun W hb => c29 xs A c W hl h0 (hx.below hb)
  have HD : Hid (∀ A c W, Below w.heap.size w W → IRow W A xs → Calls Tryz.prog 39 #[.slice A xs.length c] W (Ret W (.agg #[.int .i64 r.k, .float .f64 r.b, .string r.t, .slice none 0 0]))) := Lib.hid fun A c W hb h => c39 v r xs A c W hl h0 h hk (fun W1 p L bs hb1 => hX W1 p L bs (keepS hb1 hb)) hr
  unfold RetI at H29
  obtain ⟨n, hn⟩ : ∃ n, n = xs.length := ⟨_, rfl⟩
  rw [← hn] at H29 HD ⊢
  clear hx hX hr hk hn h0 hl
  go_enter Tryz.func20, Tryz.ntmps20
  go_wp2_with fail
  have hbA : Below w.heap.size w (w.alloc (.cells #[.int .i64 0, .float .f64 0, .string ⟨#[]⟩, .slice none 0 0] 27)) := (by repeat (first | (with_reducible exact Below.refl _ _) | (with_reducible assumption) | ((with_reducible refine Below.alloc ?_ ?_ _); rotate_left; focus (first | exact Nat.le_refl _ | omega | (simp; done) | (simp; omega))) | ((with_reducible refine Below.setCell ?_ ?_ _); rotate_left; focus (first | exact Nat.le_refl _ | omega | (simp; done) | (simp; omega))) | (with_reducible refine Below.drew ?_) | (with_reducible refine below_drewN ?_ _) | ((with_reducible refine below_via (by assumption) ?_ ?_); focus (first | exact Nat.le_refl _ | omega | (simp; done) | (simp; omega)))))
  have HZ := Lib.hid (zi_new w 27)
  generalize (w.alloc (.cells #[.int .i64 0, .float .f64 0, .string ⟨#[]⟩, .slice none 0 0] 27)) = W1 at hbA HZ ⊢
  refine (H29.out W1 hbA).mono ?_
  rintro e w1 ⟨A', c', rfl, hm, hb1⟩
  have hb1w : Below w.heap.size w w1 := keepS hb1 hbA
  have HZ1 := Lib.hid (HZ.out.below hb1)
  have HM := Lib.hid hm
  clear hm
  go_wp2_with fail
  refine (HD.out A' c' w1 hb1w HM.out).mono ?_
  rintro e w2 ⟨rfl, hb2⟩
  have hb2w : Below w.heap.size w w2 := keepS hb2 hb1w
  have HZ2 := Lib.hid (HZ1.out.below hb2)
  go_wp2_with fail
  refine (c27 r w2).mono ?_
  rintro e w3 ⟨rfl, hb3⟩
  have hb3w : Below w.heap.size w w3 := keepS hb3 hb2w
  obtain ⟨zl, z0, z1, z2, z3, zf⟩ := HZ2.out.below hb3
  go_wp2_with fail
  (refine bodyPost_ret (v := .agg #[.int .i64 r.k, .float .f64 r.b, .string r.t, .slice none 0 0]) ?_ rfl ?_; (focus (first | (simp [results, Tryz.results20, go_sem, hc1, hz1]; done) | (simp [results, Tryz.results20, go_sem]; done) | (simp [results, Tryz.results20, go_sem, *]; done))); exact ret_mk (by repeat (first | (with_reducible exact Below.refl _ _) | (with_reducible assumption) | ((with_reducible refine Below.alloc ?_ ?_ _); rotate_left; focus (first | exact Nat.le_refl _ | omega | (simp; done) | (simp; omega))) | ((with_reducible refine Below.setCell ?_ ?_ _); rotate_left; focus (first | exact Nat.le_refl _ | omega | (simp; done) | (simp; omega))) | (with_reducible refine Below.drew ?_) | (with_reducible refine below_drewN ?_ _) | ((with_reducible refine below_via (by assumption) ?_ ?_); focus (first | exact Nat.le_refl _ | omega | (simp; done) | (simp; omega))))))
set_option maxRecDepth 100000 in
set_option maxHeartbeats 1000000 in
theorem c40 (v : Value) (r : I) (xs : List I) (A : Option Addr) (c : Nat) (w : World) (hl : xs.length ≤ 1000) (h0 : 0 < xs.length) (hx : IRow w A xs) (hk : ∀ i, i ∈ xs → AOK i)
    (hX : ∀ (W : World) (p : Option Addr) (L : Nat) (bs : List Nat), Below w.heap.size w W → bs.length = xs.length → DL W L bs (xs.map fun i => .iface 68 (fA i)) → Calls Tryz.prog 54 #[.pointer p, .pointer (some ⟨L, 0, none⟩)] W (Ret W v))
    (hr : ∀ W, Calls Tryz.prog 45 #[v] W (Ret W (.agg #[.int .i64 r.k, .float .f64 r.b, .string r.t, .slice none 0 0]))) :
    Calls Tryz.prog 40 #[.slice A xs.length c] w (Ret w (.agg #[.int .i64 r.k, .float .f64 r.b, .string r.t, .slice none 0 0])) := by
  have H48 : Hid (∀ W, Below w.heap.size w W → Calls Tryz.prog 48 #[.slice A xs.length c] W (fun e w' => ∃ L bs, e = .returned (.pointer (some ⟨L, 0, none⟩)) ∧ bs.length = xs.length ∧ DL w' L bs (xs.map fun i => .iface 68 (fA i)) ∧ Below W.heap.size W w')) :=
    Lib.hid fun W hb => c48 fA xs A c W hl h0 (hx.below hb) (fun i hi w' => c66A i (hk i hi) w')
  have HX := Lib.hid hX
  have HR := Lib.hid hr
  obtain ⟨n, hn⟩ : ∃ n, n = xs.length := ⟨_, rfl⟩
  rw [← hn] at H48 HX ⊢
  clear hx hX hr hk hn h0 hl
  go_enter Tryz.func40, Tryz.ntmps40
  go_wp2_with fail
  have hbA : Below w.heap.size w (w.alloc (.cells #[.int .i64 0, .float .f64 0, .string ⟨#[]⟩, .slice none 0 0] 52)) := (by repeat (first | (with_reducible exact Below.refl _ _) | (with_reducible assumption) | ((with_reducible refine Below.alloc ?_ ?_ _); rotate_left; focus (first | exact Nat.le_refl _ | omega | (simp; done) | (simp; omega))) | ((with_reducible refine Below.setCell ?_ ?_ _); rotate_left; focus (first | exact Nat.le_refl _ | omega | (simp; done) | (simp; omega))) | (with_reducible refine Below.drew ?_) | (with_reducible refine below_drewN ?_ _) | ((with_reducible refine below_via (by assumption) ?_ ?_); focus (first | exact Nat.le_refl _ | omega | (simp; done) | (simp; omega)))))
  have HZ := Lib.hid (zi_new w 52)
  generalize (w.alloc (.cells #[.int .i64 0, .float .f64 0, .string ⟨#[]⟩, .slice none 0 0] 52)) = W1 at hbA HZ ⊢
  refine (c46 W1).mono ?_
  rintro e w1 ⟨v, rfl, ⟨p, rfl⟩, hb1⟩
  have hb1w : Below w.heap.size w w1 := keepS hb1 hbA
  have HZ1 := Lib.hid (HZ.out.below hb1)
  go_wp2_with fail
  refine (H48.out w1 hb1w).mono ?_
  rintro e w2 ⟨L, bs, rfl, hbl, hd, hb2⟩
  have hb2w : Below w.heap.size w w2 := keepS hb2 hb1w
  have HZ2 := Lib.hid (HZ1.out.below hb2)
  have HD := Lib.hid hd
  have HL := Lib.hid hbl
  clear hd hbl
  go_wp2_with fail
  refine (HX.out w2 p L bs hb2w HL.out HD.out).mono ?_
  rintro e w3 ⟨rfl, hb3⟩
  have hb3w : Below w.heap.size w w3 := keepS hb3 hb2w
  have HZ3 := Lib.hid (HZ2.out.below hb3)
  go_wp2_with fail
  refine (HR.out w3).mono ?_
  rintro e w4 ⟨rfl, hb4⟩
  have hb4w : Below w.heap.size w w4 := keepS hb4 hb3w
  obtain ⟨zl, z0, z1, z2, z3, zf⟩ := HZ3.out.below hb4
  go_wp2_with fail
  (refine bodyPost_ret (v := .agg #[.int .i64 r.k, .float .f64 r.b, .string r.t, .slice none 0 0]) ?_ rfl ?_; (focus (first | (simp [results, Tryz.results40, go_sem, hc1, hz1]; done) | (simp [results, Tryz.results40, go_sem]; done) | (simp [results, Tryz.results40, go_sem, *]; done))); exact ret_mk (by repeat (first | (with_reducible exact Below.refl _ _) | (with_reducible assumption) | ((with_reducible refine Below.alloc ?_ ?_ _); rotate_left; focus (first | exact Nat.le_refl _ | omega | (simp; done) | (simp; omega))) | ((with_reducible refine Below.setCell ?_ ?_ _); rotate_left; focus (first | exact Nat.le_refl _ | omega | (simp; done) | (simp; omega))) | (with_reducible refine Below.drew ?_) | (with_reducible refine below_drewN ?_ _) | ((with_reducible refine below_via (by assumption) ?_ ?_); focus (first | exact Nat.le_refl _ | omega | (simp; done) | (simp; omega))))))
set_option maxRecDepth 100000 in
set_option maxHeartbeats 1000000 in
theorem c22 (v : Value) (r : I) (xs : List I) (A : Option Addr) (c : Nat) (w : World) (hl : xs.length ≤ 1000) (h0 : 0 < xs.length) (hx : IRow w A xs) (hk : ∀ i, i ∈ xs → AOK i)
    (hX : ∀ (W : World) (p : Option Addr) (L : Nat) (bs : List Nat), Below w.heap.size w W → bs.length = xs.length → DL W L bs (xs.map fun i => .iface 68 (fA i)) → Calls Tryz.prog 54 #[.pointer p, .pointer (some ⟨L, 0, none⟩)] W (Ret W v))
    (hr : ∀ W, Calls Tryz.prog 45 #[v] W (Ret W (.agg #[.int .i64 r.k, .float .f64 r.b, .string r.t, .slice none 0 0]))) :
    Calls Tryz.prog 22 #[.slice A xs.length c] w (Ret w (.agg #[.int .i64 r.k, .float .f64 r.b, .string r.t, .slice none 0 0])) := by
  have H29 : Hid (∀ W, Below w.heap.size w W → Calls Tryz.prog 29 #[.slice A xs.length c] W (RetI W xs)) := Lib.hid fun W hb => c29 xs A c W hl h0 (hx.below hb)
  have HD : Hid (∀ A c W, Below w.heap.size w W → IRow W A xs → Calls Tryz.prog 40 #[.slice A xs.length c] W (Ret W (.agg #[.int .i64 r.k, .float .f64 r.b, .string r.t, .slice none 0 0]))) := Lib.hid fun A c W hb h => c40 v r xs A c W hl h0 h hk (fun W1 p L bs hb1 => hX W1 p L bs (keepS hb1 hb)) hr
  unfold RetI at H29
  obtain ⟨n, hn⟩ : ∃ n, n = xs.length := ⟨_, rfl⟩
  rw [← hn] at H29 HD ⊢
  clear hx hX hr hk hn h0 hl
  go_enter Tryz.func22, Tryz.ntmps22
  go_wp2_with fail
  have hbA : Below w.heap.size w (w.alloc (.cells #[.int .i64 0, .float .f64 0, .string ⟨#[]⟩, .slice none 0 0] 27)) := (by repeat (first | (with_reducible exact Below.refl _ _) | (with_reducible assumption) | ((with_reducible refine Below.alloc ?_ ?_ _); rotate_left; focus (first | exact Nat.le_refl _ | omega | (simp; done) | (simp; omega))) | ((with_reducible refine Below.setCell ?_ ?_ _); rotate_left; focus (first | exact Nat.le_refl _ | omega | (simp; done) | (simp; omega))) | (with_reducible refine Below.drew ?_) | (with_reducible refine below_drewN ?_ _) | ((with_reducible refine below_via (by assumption) ?_ ?_); focus (first | exact Nat.le_refl _ | omega | (simp; done) | (simp; omega)))))
  have HZ := Lib.hid (zi_new w 27)
  generalize (w.alloc (.cells #[.int .i64 0, .float .f64 0, .string ⟨#[]⟩, .slice none 0 0] 27)) = W1 at hbA HZ ⊢
  refine (H29.out W1 hbA).mono ?_
  rintro e w1 ⟨A', c', rfl, hm, hb1⟩
  have hb1w : Below w.heap.size w w1 := keepS hb1 hbA
  have HZ1 := Lib.hid (HZ.out.below hb1)
  have HM := Lib.hid hm
  clear hm
  go_wp2_with fail
  refine (HD.out A' c' w1 hb1w HM.out).mono ?_
  rintro e w2 ⟨rfl, hb2⟩
  have hb2w : Below w.heap.size w w2 := keepS hb2 hb1w
  have HZ2 := Lib.hid (HZ1.out.below hb2)
  go_wp2_with fail
  refine (c27 r w2).mono ?_
  rintro e w3 ⟨rfl, hb3⟩
  have hb3w : Below w.heap.size w w3 := keepS hb3 hb2w
  obtain ⟨zl, z0, z1, z2, z3, zf⟩ := HZ2.out.below hb3
  go_wp2_with fail
  (refine bodyPost_ret (v := .agg #[.int .i64 r.k, .float .f64 r.b, .string r.t, .slice none 0 0]) ?_ rfl ?_; (focus (first | (simp [results, Tryz.results22, go_sem, hc1, hz1]; done) | (simp [results, Tryz.results22, go_sem]; done) | (simp [results, Tryz.results22, go_sem, *]; done))); exact ret_mk (by repeat (first | (with_reducible exact Below.refl _ _) | (with_reducible assumption) | ((with_reducible refine Below.alloc ?_ ?_ _); rotate_left; focus (first | exact Nat.le_refl _ | omega | (simp; done) | (simp; omega))) | ((with_reducible refine Below.setCell ?_ ?_ _); rotate_left; focus (first | exact Nat.le_refl _ | omega | (simp; done) | (simp; omega))) | (with_reducible refine Below.drew ?_) | (with_reducible refine below_drewN ?_ _) | ((with_reducible refine below_via (by assumption) ?_ ?_); focus (first | exact Nat.le_refl _ | omega | (simp; done) | (simp; omega))))))
set_option maxRecDepth 100000 in
set_option maxHeartbeats 1000000 in
theorem c41 (v : Value) (r : I) (xs : List I) (A : Option Addr) (c : Nat) (w : World) (hl : xs.length ≤ 1000) (h0 : 0 < xs.length) (hx : IRow w A xs) (hk : ∀ i, i ∈ xs → AOK i)
    (hX : ∀ (W : World) (p : Option Addr) (L : Nat) (bs : List Nat), Below w.heap.size w W → bs.length = xs.length → DL W L bs (xs.map fun i => .iface 68 (fA i)) → Calls Tryz.prog 55 #[.pointer p, .pointer (some ⟨L, 0, none⟩)] W (Ret W v))
    (hr : ∀ W, Calls Tryz.prog 45 #[v] W (Ret W (.agg #[.int .i64 r.k, .float .f64 r.b, .string r.t, .slice none 0 0]))) :
    Calls Tryz.prog 41 #[.slice A xs.length c] w (Ret w (.agg #[.int .i64 r.k, .float .f64 r.b, .string r.t, .slice none 0 0])) := by
  have H48 : Hid (∀ W, Below w.heap.size w W → Calls Tryz.prog 48 #[.slice A xs.length c] W (fun e w' => ∃ L bs, e = .returned (.pointer (some ⟨L, 0, none⟩)) ∧ bs.length = xs.length ∧ DL w' L bs (xs.map fun i => .iface 68 (fA i)) ∧ Below W.heap.size W w')) :=
    Lib.hid fun W hb => c48 fA xs A c W hl h0 (hx.below hb) (fun i hi w' => c66A i (hk i hi) w')
  have HX := Lib.hid hX
  have HR := Lib.hid hr
  obtain ⟨n, hn⟩ : ∃ n, n = xs.length := ⟨_, rfl⟩
  rw [← hn] at H48 HX ⊢
  clear hx hX hr hk hn h0 hl
  go_enter Tryz.func41, Tryz.ntmps41
  go_wp2_with fail
  have hbA : Below w.heap.size w (w.alloc (.cells #[.int .i64 0, .float .f64 0, .string ⟨#[]⟩, .slice none 0 0] 52)) := (by repeat (first | (with_reducible exact Below.refl _ _) | (with_reducible assumption) | ((with_reducible refine Below.alloc ?_ ?_ _); rotate_left; focus (first | exact Nat.le_refl _ | omega | (simp; done) | (simp; omega))) | ((with_reducible refine Below.setCell ?_ ?_ _); rotate_left; focus (first | exact Nat.le_refl _ | omega | (simp; done) | (simp; omega))) | (with_reducible refine Below.drew ?_) | (with_reducible refine below_drewN ?_ _) | ((with_reducible refine below_via (by assumption) ?_ ?_); focus (first | exact Nat.le_refl _ | omega | (simp; done) | (simp; omega)))))
  have HZ := Lib.hid (zi_new w 52)
  generalize (w.alloc (.cells #[.int .i64 0, .float .f64 0, .string ⟨#[]⟩, .slice none 0 0] 52)) = W1 at hbA HZ ⊢
  refine (c46 W1).mono ?_
  rintro e w1 ⟨v, rfl, ⟨p, rfl⟩, hb1⟩
  have hb1w : Below w.heap.size w w1 := keepS hb1 hbA
  have HZ1 := Lib.hid (HZ.out.below hb1)
  go_wp2_with fail
  refine (H48.out w1 hb1w).mono ?_
  rintro e w2 ⟨L, bs, rfl, hbl, hd, hb2⟩
  have hb2w : Below w.heap.size w w2 := keepS hb2 hb1w
  have HZ2 := Lib.hid (HZ1.out.below hb2)
  have HD := Lib.hid hd
  have HL := Lib.hid hbl
  clear hd hbl
  go_wp2_with fail
  refine (HX.out w2 p L bs hb2w HL.out HD.out).mono ?_
  rintro e w3 ⟨rfl, hb3⟩
  have hb3w : Below w.heap.size w w3 := keepS hb3 hb2w
  have HZ3 := Lib.hid (HZ2.out.below hb3)
  go_wp2_with fail
  refine (HR.out w3).mono ?_
  rintro e w4 ⟨rfl, hb4⟩
  have hb4w : Below w.heap.size w w4 := keepS hb4 hb3w
  obtain ⟨zl, z0, z1, z2, z3, zf⟩ := HZ3.out.below hb4
  go_wp2_with fail
  (refine bodyPost_ret (v := .agg #[.int .i64 r.k, .float .f64 r.b, .string r.t, .slice none 0 0]) ?_ rfl ?_; (focus (first | (simp [results, Tryz.results41, go_sem, hc1, hz1]; done) | (simp [results, Tryz.results41, go_sem]; done) | (simp [results, Tryz.results41, go_sem, *]; done))); exact ret_mk (by repeat (first | (with_reducible exact Below.refl _ _) | (with_reducible assumption) | ((with_reducible refine Below.alloc ?_ ?_ _); rotate_left; focus (first | exact Nat.le_refl _ | omega | (simp; done) | (simp; omega))) | ((with_reducible refine Below.setCell ?_ ?_ _); rotate_left; focus (first | exact Nat.le_refl _ | omega | (simp; done) | (simp; omega))) | (with_reducible refine Below.drew ?_) | (with_reducible refine below_drewN ?_ _) | ((with_reducible refine below_via (by assumption) ?_ ?_); focus (first | exact Nat.le_refl _ | omega | (simp; done) | (simp; omega))))))
set_option maxRecDepth 100000 in
set_option maxHeartbeats 1000000 in
theorem c23 (v : Value) (r : I) (xs : List I) (A : Option Addr) (c : Nat) (w : World) (hl : xs.length ≤ 1000) (h0 : 0 < xs.length) (hx : IRow w A xs) (hk : ∀ i, i ∈ xs → AOK i)
    (hX : ∀ (W : World) (p : Option Addr) (L : Nat) (bs : List Nat), Below w.heap.size w W → bs.length = xs.length → DL W L bs (xs.map fun i => .iface 68 (fA i)) → Calls Tryz.prog 55 #[.pointer p, .pointer (some ⟨L, 0, none⟩)] W (Ret W v))
    (hr : ∀ W, Calls Tryz.prog 45 #[v] W (Ret W (.agg #[.int .i64 r.k, .float .f64 r.b, .string r.t, .slice none 0 0]))) :
    Calls Tryz.prog 23 #[.slice A xs.length c] w (Ret w (.agg #[.int .i64 r.k, .float .f64 r.b, .string r.t, .slice none 0 0])) := by
  have H29 : Hid (∀ W, Below w.heap.size w W → Calls Tryz.prog 29 #[.slice A xs.length c] W (RetI W xs)) := Lib.hid fun W hb => c29 xs A c W hl h0 (hx.below hb)
  have HD : Hid (∀ A c W, Below w.heap.size w W → IRow W A xs → Calls Tryz.prog 41 #[.slice A xs.length c] W (Ret W (.agg #[.int .i64 r.k, .float .f64 r.b, .string r.t, .slice none 0 0]))) := Lib.hid fun A c W hb h => c41 v r xs A c W hl h0 h hk (fun W1 p L bs hb1 => hX W1 p L bs (keepS hb1 hb)) hr
  unfold RetI at H29
  obtain ⟨n, hn⟩ : ∃ n, n = xs.length := ⟨_, rfl⟩
  rw [← hn] at H29 HD ⊢
  clear hx hX hr hk hn h0 hl
  go_enter Tryz.func23, Tryz.ntmps23
  go_wp2_with fail
  have hbA : Below w.heap.size w (w.alloc (.cells #[.int .i64 0, .float .f64 0, .string ⟨#[]⟩, .slice none 0 0] 27)) := (by repeat (first | (with_reducible exact Below.refl _ _) | (with_reducible assumption) | ((with_reducible refine Below.alloc ?_ ?_ _); rotate_left; focus (first | exact Nat.le_refl _ | omega | (simp; done) | (simp; omega))) | ((with_reducible refine Below.setCell ?_ ?_ _); rotate_left; focus (first | exact Nat.le_refl _ | omega | (simp; done) | (simp; omega))) | (with_reducible refine Below.drew ?_) | (with_reducible refine below_drewN ?_ _) | ((with_reducible refine below_via (by assumption) ?_ ?_); focus (first | exact Nat.le_refl _ | omega | (simp; done) | (simp; omega)))))
  have HZ := Lib.hid (zi_new w 27)
  generalize (w.alloc (.cells #[.int .i64 0, .float .f64 0, .string ⟨#[]⟩, .slice none 0 0] 27)) = W1 at hbA HZ ⊢
  refine (H29.out W1 hbA).mono ?_
  rintro e w1 ⟨A', c', rfl, hm, hb1⟩
  have hb1w : Below w.heap.size w w1 := keepS hb1 hbA
  have HZ1 := Lib.hid (HZ.out.below hb1)
  have HM := Lib.hid hm
  clear hm
  go_wp2_with fail
  refine (HD.out A' c' w1 hb1w HM.out).mono ?_
  rintro e w2 ⟨rfl, hb2⟩
  have hb2w : Below w.heap.size w w2 := keepS hb2 hb1w
  have HZ2 := Lib.hid (HZ1.out.below hb2)
  go_wp2_with fail
  refine (c27 r w2).mono ?_
  rintro e w3 ⟨rfl, hb3⟩
  have hb3w : Below w.heap.size w w3 := keepS hb3 hb2w
  obtain ⟨zl, z0, z1, z2, z3, zf⟩ := HZ2.out.below hb3
  go_wp2_with fail
  (refine bodyPost_ret (v := .agg #[.int .i64 r.k, .float .f64 r.b, .string r.t, .slice none 0 0]) ?_ rfl ?_; (focus (first | (simp [results, Tryz.results23, go_sem, hc1, hz1]; done) | (simp [results, Tryz.results23, go_sem]; done) | (simp [results, Tryz.results23, go_sem, *]; done))); exact ret_mk (by repeat (first | (with_reducible exact Below.refl _ _) | (with_reducible assumption) | ((with_reducible refine Below.alloc ?_ ?_ _); rotate_left; focus (first | exact Nat.le_refl _ | omega | (simp; done) | (simp; omega))) | ((with_reducible refine Below.setCell ?_ ?_ _); rotate_left; focus (first | exact Nat.le_refl _ | omega | (simp; done) | (simp; omega))) | (with_reducible refine Below.drew ?_) | (with_reducible refine below_drewN ?_ _) | ((with_reducible refine below_via (by assumption) ?_ ?_); focus (first | exact Nat.le_refl _ | omega | (simp; done) | (simp; omega))))))
set_option maxRecDepth 100000 in
set_option maxHeartbeats 1000000 in
theorem c42 (v : Value) (r : I) (xs : List I) (A : Option Addr) (c : Nat) (w : World) (hl : xs.length ≤ 1000) (h0 : 0 < xs.length) (hx : IRow w A xs) (hk : ∀ i, i ∈ xs → AOK i)
    (hX : ∀ (W : World) (p : Option Addr) (L : Nat) (bs : List Nat), Below w.heap.size w W → bs.length = xs.length → DL W L bs (xs.map fun i => .iface 68 (fA i)) → Calls Tryz.prog 56 #[.pointer p, .pointer (some ⟨L, 0, none⟩)] W (Ret W v))
    (hr : ∀ W, Calls Tryz.prog 45 #[v] W (Ret W (.agg #[.int .i64 r.k, .float .f64 r.b, .string r.t, .slice none 0 0]))) :
    Calls Tryz.prog 42 #[.slice A xs.length c] w (Ret w (.agg #[.int .i64 r.k, .float .f64 r.b, .string r.t, .slice none 0 0])) := by
  have H48 : Hid (∀ W, Below w.heap.size w W → Calls Tryz.prog 48 #[.slice A xs.length c] W (fun e w' => ∃ L bs, e = .returned (.pointer (some ⟨L, 0, none⟩)) ∧ bs.length = xs.length ∧ DL w' L bs (xs.map fun i => .iface 68 (fA i)) ∧ Below W.heap.size W w')) :=
    Lib.hid fun W hb => c48 fA xs A c W hl h0 (hx.below hb) (fun i hi w' => c66A i (hk i hi) w')
  have HX := Lib.hid hX
  have HR := Lib.hid hr
  obtain ⟨n, hn⟩ : ∃ n, n = xs.length := ⟨_, rfl⟩
  rw [← hn] at H48 HX ⊢
  clear hx hX hr hk hn h0 hl
  go_enter Tryz.func42, Tryz.ntmps42
  go_wp2_with fail
  have hbA : Below w.heap.size w (w.alloc (.cells #[.int .i64 0, .float .f64 0, .string ⟨#[]⟩, .slice none 0 0] 52)) := (by repeat (first | (with_reducible exact Below.refl _ _) | (with_reducible assumption) | ((with_reducible refine Below.alloc ?_ ?_ _); rotate_left; focus (first | exact Nat.le_refl _ | omega | (simp; done) | (simp; omega))) | ((with_reducible refine Below.setCell ?_ ?_ _); rotate_left; focus (first | exact Nat.le_refl _ | omega | (simp; done) | (simp; omega))) | (with_reducible refine Below.drew ?_) | (with_reducible refine below_drewN ?_ _) | ((with_reducible refine below_via (by assumption) ?_ ?_); focus (first | exact Nat.le_refl _ | omega | (simp; done) | (simp; omega)))))
  have HZ := Lib.hid (zi_new w 52)
  generalize (w.alloc (.cells #[.int .i64 0, .float .f64 0, .string ⟨#[]⟩, .slice none 0 0] 52)) = W1 at hbA HZ ⊢
  refine (c46 W1).mono ?_
  rintro e w1 ⟨v, rfl, ⟨p, rfl⟩, hb1⟩
  have hb1w : Below w.heap.size w w1 := keepS hb1 hbA
  have HZ1 := Lib.hid (HZ.out.below hb1)
  go_wp2_with fail
  refine (H48.out w1 hb1w).mono ?_
  rintro e w2 ⟨L, bs, rfl, hbl, hd, hb2⟩
  have hb2w : Below w.heap.size w w2 := keepS hb2 hb1w
  have HZ2 := Lib.hid (HZ1.out.below hb2)
  have HD := Lib.hid hd
  have HL := Lib.hid hbl
  clear hd hbl
  go_wp2_with fail
  refine (HX.out w2 p L bs hb2w HL.out HD.out).mono ?_
  rintro e w3 ⟨rfl, hb3⟩
  have hb3w : Below w.heap.size w w3 := keepS hb3 hb2w
  have HZ3 := Lib.hid (HZ2.out.below hb3)
  go_wp2_with fail
  refine (HR.out w3).mono ?_
  rintro e w4 ⟨rfl, hb4⟩
  have hb4w : Below w.heap.size w w4 := keepS hb4 hb3w
  obtain ⟨zl, z0, z1, z2, z3, zf⟩ := HZ3.out.below hb4
  go_wp2_with fail
  (refine bodyPost_ret (v := .agg #[.int .i64 r.k, .float .f64 r.b, .string r.t, .slice none 0 0]) ?_ rfl ?_; (focus (first | (simp [results, Tryz.results42, go_sem, hc1, hz1]; done) | (simp [results, Tryz.results42, go_sem]; done) | (simp [results, Tryz.results42, go_sem, *]; done))); exact ret_mk (by repeat (first | (with_reducible exact Below.refl _ _) | (with_reducible assumption) | ((with_reducible refine Below.alloc ?_ ?_ _); rotate_left; focus (first | exact Nat.le_refl _ | omega | (simp; done) | (simp; omega))) | ((with_reducible refine Below.setCell ?_ ?_ _); rotate_left; focus (first | exact Nat.le_refl _ | omega | (simp; done) | (simp; omega))) | (with_reducible refine Below.drew ?_) | (with_reducible refine below_drewN ?_ _) | ((with_reducible refine below_via (by assumption) ?_ ?_); focus (first | exact Nat.le_refl _ | omega | (simp; done) | (simp; omega))))))
set_option maxRecDepth 100000 in
set_option maxHeartbeats 1000000 in
theorem c24 (v : Value) (r : I) (xs : List I) (A : Option Addr) (c : Nat) (w : World) (hl : xs.length ≤ 1000) (h0 : 0 < xs.length) (hx : IRow w A xs) (hk : ∀ i, i ∈ xs → AOK i)
    (hX : ∀ (W : World) (p : Option Addr) (L : Nat) (bs : List Nat), Below w.heap.size w W → bs.length = xs.length → DL W L bs (xs.map fun i => .iface 68 (fA i)) → Calls Tryz.prog 56 #[.pointer p, .pointer (some ⟨L, 0, none⟩)] W (Ret W v))
    (hr : ∀ W, Calls Tryz.prog 45 #[v] W (Ret W (.agg #[.int .i64 r.k, .float .f64 r.b, .string r.t, .slice none 0 0]))) :
    Calls Tryz.prog 24 #[.slice A xs.length c] w (Ret w (.agg #[.int .i64 r.k, .float .f64 r.b, .string r.t, .slice none 0 0])) := by
  have H29 : Hid (∀ W, Below w.heap.size w W → Calls Tryz.prog 29 #[.slice A xs.length c] W (RetI W xs)) := Lib.hid fun W hb => c29 xs A c W hl h0 (hx.below hb)
  have HD : Hid (∀ A c W, Below w.heap.size w W → IRow W A xs → Calls Tryz.prog 42 #[.slice A xs.length c] W (Ret W (.agg #[.int .i64 r.k, .float .f64 r.b, .string r.t, .slice none 0 0]))) := Lib.hid fun A c W hb h => c42 v r xs A c W hl h0 h hk (fun W1 p L bs hb1 => hX W1 p L bs (keepS hb1 hb)) hr
  unfold RetI at H29
  obtain ⟨n, hn⟩ : ∃ n, n = xs.length := ⟨_, rfl⟩
  rw [← hn] at H29 HD ⊢
  clear hx hX hr hk hn h0 hl
  go_enter Tryz.func24, Tryz.ntmps24
  go_wp2_with fail
  have hbA : Below w.heap.size w (w.alloc (.cells #[.int .i64 0, .float .f64 0, .string ⟨#[]⟩, .slice none 0 0] 27)) := (by repeat (first | (with_reducible exact Below.refl _ _) | (with_reducible assumption) | ((with_reducible refine Below.alloc ?_ ?_ _); rotate_left; focus (first | exact Nat.le_refl _ | omega | (simp; done) | (simp; omega))) | ((with_reducible refine Below.setCell ?_ ?_ _); rotate_left; focus (first | exact Nat.le_refl _ | omega | (simp; done) | (simp; omega))) | (with_reducible refine Below.drew ?_) | (with_reducible refine below_drewN ?_ _) | ((with_reducible refine below_via (by assumption) ?_ ?_); focus (first | exact Nat.le_refl _ | omega | (simp; done) | (simp; omega)))))
  have HZ := Lib.hid (zi_new w 27)
  generalize (w.alloc (.cells #[.int .i64 0, .float .f64 0, .string ⟨#[]⟩, .slice none 0 0] 27)) = W1 at hbA HZ ⊢
  refine (H29.out W1 hbA).mono ?_
  rintro e w1 ⟨A', c', rfl, hm, hb1⟩
  have hb1w : Below w.heap.size w w1 := keepS hb1 hbA
  have HZ1 := Lib.hid (HZ.out.below hb1)
  have HM := Lib.hid hm
  clear hm
  go_wp2_with fail
  refine (HD.out A' c' w1 hb1w HM.out).mono ?_
  rintro e w2 ⟨rfl, hb2⟩
  have hb2w : Below w.heap.size w w2 := keepS hb2 hb1w
  have HZ2 := Lib.hid (HZ1.out.below hb2)
  go_wp2_with fail
  refine (c27 r w2).mono ?_
  rintro e w3 ⟨rfl, hb3⟩
  have hb3w : Below w.heap.size w w3 := keepS hb3 hb2w
  obtain ⟨zl, z0, z1, z2, z3, zf⟩ := HZ2.out.below hb3
  go_wp2_with fail
  (refine bodyPost_ret (v := .agg #[.int .i64 r.k, .float .f64 r.b, .string r.t, .slice none 0 0]) ?_ rfl ?_; (focus (first | (simp [results, Tryz.results24, go_sem, hc1, hz1]; done) | (simp [results, Tryz.results24, go_sem]; done) | (simp [results, Tryz.results24, go_sem, *]; done))); exact ret_mk (by repeat (first | (with_reducible exact Below.refl _ _) | (with_reducible assumption) | ((with_reducible refine Below.alloc ?_ ?_ _); rotate_left; focus (first | exact Nat.le_refl _ | omega | (simp; done) | (simp; omega))) | ((with_reducible refine Below.setCell ?_ ?_ _); rotate_left; focus (first | exact Nat.le_refl _ | omega | (simp; done) | (simp; omega))) | (with_reducible refine Below.drew ?_) | (with_reducible refine below_drewN ?_ _) | ((with_reducible refine below_via (by assumption) ?_ ?_); focus (first | exact Nat.le_refl _ | omega | (simp; done) | (simp; omega))))))
set_option maxRecDepth 100000 in
set_option maxHeartbeats 1000000 in
theorem c43 (v : Value) (r : I) (xs : List I) (A : Option Addr) (c : Nat) (w : World) (hl : xs.length ≤ 1000) (h0 : 0 < xs.length) (hx : IRow w A xs) (hk : ∀ i, i ∈ xs → AOK i)
    (hX : ∀ (W : World) (p : Option Addr) (L : Nat) (bs : List Nat), Below w.heap.size w W → bs.length = xs.length → DL W L bs (xs.map fun i => .iface 68 (fA i)) → Calls Tryz.prog 57 #[.pointer p, .pointer (some ⟨L, 0, none⟩)] W (Ret W v))
    (hr : ∀ W, Calls Tryz.prog 45 #[v] W (Ret W (.agg #[.int .i64 r.k, .float .f64 r.b, .string r.t, .slice none 0 0]))) :
    Calls Tryz.prog 43 #[.slice A xs.length c] w (Ret w (.agg #[.int .i64 r.k, .float .f64 r.b, .string r.t, .slice none 0 0])) := by
  have H48 : Hid (∀ W, Below w.heap.size w W → Calls Tryz.prog 48 #[.slice A xs.length c] W (fun e w' => ∃ L bs, e = .returned (.pointer (some ⟨L, 0, none⟩)) ∧ bs.length = xs.length ∧ DL w' L bs (xs.map fun i => .iface 68 (fA i)) ∧ Below W.heap.size W w')) :=
    Lib.hid fun W hb => c48 fA xs A c W hl h0 (hx.below hb) (fun i hi w' => c66A i (hk i hi) w')
  have HX := Lib.hid hX
  have HR := Lib.hid hr
  obtain ⟨n, hn⟩ : ∃ n, n = xs.length := ⟨_, rfl⟩
  rw [← hn] at H48 HX ⊢
  clear hx hX hr hk hn h0 hl
  go_enter Tryz.func43, Tryz.ntmps43
  go_wp2_with fail
  have hbA : Below w.heap.size w (w.alloc (.cells #[.int .i64 0, .float .f64 0, .string ⟨#[]⟩, .slice none 0 0] 52)) := (by repeat (first | (with_reducible exact Below.refl _ _) | (with_reducible assumption) | ((with_reducible refine Below.alloc ?_ ?_ _); rotate_left; focus (first | exact Nat.le_refl _ | omega | (simp; done) | (simp; omega))) | ((with_reducible refine Below.setCell ?_ ?_ _); rotate_left; focus (first | exact Nat.le_refl _ | omega | (simp; done) | (simp; omega))) | (with_reducible refine Below.drew ?_) | (with_reducible refine below_drewN ?_ _) | ((with_reducible refine below_via (by assumption) ?_ ?_); focus (first | exact Nat.le_refl _ | omega | (simp; done) | (simp; omega)))))
  have HZ := Lib.hid (zi_new w 52)
  generalize (w.alloc (.cells #[.int .i64 0, .float .f64 0, .string ⟨#[]⟩, .slice none 0 0] 52)) = W1 at hbA HZ ⊢
  refine (c46 W1).mono ?_
  rintro e w1 ⟨v, rfl, ⟨p, rfl⟩, hb1⟩
  have hb1w : Below w.heap.size w w1 := keepS hb1 hbA
  have HZ1 := Lib.hid (HZ.out.below hb1)
  go_wp2_with fail
  refine (H48.out w1 hb1w).mono ?_
  rintro e w2 ⟨L, bs, rfl, hbl, hd, hb2⟩
  have hb2w : Below w.heap.size w w2 := keepS hb2 hb1w
  have HZ2 := Lib.hid (HZ1.out.below hb2)
  have HD := Lib.hid hd
  have HL := Lib.hid hbl
  clear hd hbl
  go_wp2_with fail
  refine (HX.out w2 p L bs hb2w HL.out HD.out).mono ?_
  rintro e w3 ⟨rfl, hb3⟩
  have hb3w : Below w.heap.size w w3 := keepS hb3 hb2w
  have HZ3 := Lib.hid (HZ2.out.below hb3)
  go_wp2_with fail
  refine (HR.out w3).mono ?_
  rintro e w4 ⟨rfl, hb4⟩
  have hb4w : Below w.heap.size w w4 := keepS hb4 hb3w
  obtain ⟨zl, z0, z1, z2, z3, zf⟩ := HZ3.out.below hb4
  go_wp2_with fail
  (refine bodyPost_ret (v := .agg #[.int .i64 r.k, .float .f64 r.b, .string r.t, .slice none 0 0]) ?_ rfl ?_; (focus (first | (simp [results, Tryz.results43, go_sem, hc1, hz1]; done) | (simp [results, Tryz.results43, go_sem]; done) | (simp [results, Tryz.results43, go_sem, *]; done))); exact ret_mk (by repeat (first | (with_reducible exact Below.refl _ _) | (with_reducible assumption) | ((with_reducible refine Below.alloc ?_ ?_ _); rotate_left; focus (first | exact Nat.le_refl _ | omega | (simp; done) | (simp; omega))) | ((with_reducible refine Below.setCell ?_ ?_ _); rotate_left; focus (first | exact Nat.le_refl _ | omega | (simp; done) | (simp; omega))) | (with_reducible refine Below.drew ?_) | (with_reducible refine below_drewN ?_ _) | ((with_reducible refine below_via (by assumption) ?_ ?_); focus (first | exact Nat.le_refl _ | omega | (simp; done) | (simp; omega))))))
set_option maxRecDepth 100000 in
set_option maxHeartbeats 1000000 in
theorem c25 (v : Value) (r : I) (xs : List I) (A : Option Addr) (c : Nat) (w : World) (hl : xs.length ≤ 1000) (h0 : 0 < xs.length) (hx : IRow w A xs) (hk : ∀ i, i ∈ xs → AOK i)
    (hX : ∀ (W : World) (p : Option Addr) (L : Nat) (bs : List Nat), Below w.heap.size w W → bs.length = xs.length → DL W L bs (xs.map fun i => .iface 68 (fA i)) → Calls Tryz.prog 57 #[.pointer p, .pointer (some ⟨L, 0, none⟩)] W (Ret W v))
    (hr : ∀ W, Calls Tryz.prog 45 #[v] W (Ret W (.agg #[.int .i64 r.k, .float .f64 r.b, .string r.t, .slice none 0 0]))) :
    Calls Tryz.prog 25 #[.slice A xs.length c] w (Ret w (.agg #[.int .i64 r.k, .float .f64 r.b, .string r.t, .slice none 0 0])) := by
  have H29 : Hid (∀ W, Below w.heap.size w W → Calls Tryz.prog 29 #[.slice A xs.length c] W (RetI W xs)) := Lib.hid fun W hb => c29 xs A c W hl h0 (hx.below hb)
  have HD : Hid (∀ A c W, Below w.heap.size w W → IRow W A xs → Calls Tryz.prog 43 #[.slice A xs.length c] W (Ret W (.agg #[.int .i64 r.k, .float .f64 r.b, .string r.t, .slice none 0 0]))) := Lib.hid fun A c W hb h => c43 v r xs A c W hl h0 h hk (fun W1 p L bs hb1 => hX W1 p L bs (keepS hb1 hb)) hr
  unfold RetI at H29
  obtain ⟨n, hn⟩ : ∃ n, n = xs.length := ⟨_, rfl⟩
  rw [← hn] at H29 HD ⊢
  clear hx hX hr hk hn h0 hl
  go_enter Tryz.func25, Tryz.ntmps25
  go_wp2_with fail
  have hbA : Below w.heap.size w (w.alloc (.cells #[.int .i64 0, .float .f64 0, .string ⟨#[]⟩, .slice none 0 0] 27)) := (by repeat (first | (with_reducible exact Below.refl _ _) | (with_reducible assumption) | ((with_reducible refine Below.alloc ?_ ?_ _); rotate_left; focus (first | exact Nat.le_refl _ | omega | (simp; done) | (simp; omega))) | ((with_reducible refine Below.setCell ?_ ?_ _); rotate_left; focus (first | exact Nat.le_refl _ | omega | (simp; done) | (simp; omega))) | (with_reducible refine Below.drew ?_) | (with_reducible refine below_drewN ?_ _) | ((with_reducible refine below_via (by assumption) ?_ ?_); focus (first | exact Nat.le_refl _ | omega | (simp; done) | (simp; omega)))))
  have HZ := Lib.hid (zi_new w 27)
  generalize (w.alloc (.cells #[.int .i64 0, .float .f64 0, .string ⟨#[]⟩, .slice none 0 0] 27)) = W1 at hbA HZ ⊢
  refine (H29.out W1 hbA).mono ?_
  rintro e w1 ⟨A', c', rfl, hm, hb1⟩
  have hb1w : Below w.heap.size w w1 := keepS hb1 hbA
  have HZ1 := Lib.hid (HZ.out.below hb1)
  have HM := Lib.hid hm
  clear hm
  go_wp2_with fail
  refine (HD.out A' c' w1 hb1w HM.out).mono ?_
  rintro e w2 ⟨rfl, hb2⟩
  have hb2w : Below w.heap.size w w2 := keepS hb2 hb1w
  have HZ2 := Lib.hid (HZ1.out.below hb2)
  go_wp2_with fail
  refine (c27 r w2).mono ?_
  rintro e w3 ⟨rfl, hb3⟩
  have hb3w : Below w.heap.size w w3 := keepS hb3 hb2w
  obtain ⟨zl, z0, z1, z2, z3, zf⟩ := HZ2.out.below hb3
  go_wp2_with fail
  (refine bodyPost_ret (v := .agg #[.int .i64 r.k, .float .f64 r.b, .string r.t, .slice none 0 0]) ?_ rfl ?_; (focus (first | (simp [results, Tryz.results25, go_sem, hc1, hz1]; done) | (simp [results, Tryz.results25, go_sem]; done) | (simp [results, Tryz.results25, go_sem, *]; done))); exact ret_mk (by repeat (first | (with_reducible exact Below.refl _ _) | (with_reducible assumption) | ((with_reducible refine Below.alloc ?_ ?_ _); rotate_left; focus (first | exact Nat.le_refl _ | omega | (simp; done) | (simp; omega))) | ((with_reducible refine Below.setCell ?_ ?_ _); rotate_left; focus (first | exact Nat.le_refl _ | omega | (simp; done) | (simp; omega))) | (with_reducible refine Below.drew ?_) | (with_reducible refine below_drewN ?_ _) | ((with_reducible refine below_via (by assumption) ?_ ?_); focus (first | exact Nat.le_refl _ | omega | (simp; done) | (simp; omega))))))
end Go.Proofs.YtkhgaenffnoimaaGreatDoor
