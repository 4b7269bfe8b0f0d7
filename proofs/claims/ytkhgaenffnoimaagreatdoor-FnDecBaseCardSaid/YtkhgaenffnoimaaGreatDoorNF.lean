/- DEC2BIN, DEC2OCT, DEC2HEX. -/
import Derived.Test.YtkhgaenffnoimaaGreatDoorND
import Derived.Test.YtkhgaenffnoimaaGreatDoorNB
set_option linter.unusedSimpArgs false
set_option linter.unusedVariables false
namespace Go.Proofs.YtkhgaenffnoimaaGreatDoor
open Go.RowKit FL
attribute [local go_sem] run_store_float as64
theorem q_lt (n a : Int) (x : Nat) (hx : floatOfInt FloatKind.f64 a = x) (hn : n.natAbs < 562949953421312) (ha : a.natAbs < 562949953421312) (h : a ≤ n) : (FloatKind.f64.format.order (floatOfInt FloatKind.f64 n) x == some Ordering.lt) = false := by
  rw [← hx, order_foi n a hn ha]
  simp only [compare, compareOfLessAndEq]
  rw [if_neg (by omega)]
  split <;> rfl
theorem q_gt (n a : Int) (x : Nat) (hx : floatOfInt FloatKind.f64 a = x) (hn : n.natAbs < 562949953421312) (ha : a.natAbs < 562949953421312) (h : n ≤ a) : (FloatKind.f64.format.order (floatOfInt FloatKind.f64 n) x == some Ordering.gt) = false := by
  rw [← hx, order_foi n a hn ha]
  simp only [compare, compareOfLessAndEq]
  split
  · rfl
  · rw [if_pos (by omega)]
    rfl
theorem one_of (L : Nat) (bs : List Nat) (h : bs.length = 1) : ∃ x, bs = [x] := by
  match bs, h with
  | [x], _ => exact ⟨x, rfl⟩
theorem enters23 (args : Array Value) (W : World) : (callFunc 23 args).run Tryz.prog W = .ok (.enter 23 args) W := by simp [go_sem]
theorem hi55 : floatOfInt FloatKind.f64 511 = 4647697223260307456 := by decide
theorem lo55 : floatOfInt FloatKind.f64 (-512) = 13871086852301127680 := by decide
set_option maxRecDepth 100000 in
set_option maxHeartbeats 1000000 in
theorem c55 (n L x : Nat) (p : Value) (w : World) (hn : n ≤ 511) (hT : Tab w) (hT4 : 15 ≤ w.heap.size) (hd : DL w L [x] [.iface 68 (fN (floatOfInt FloatKind.f64 (n : Int)))]) :
    Calls Tryz.prog 55 #[p, .pointer (some ⟨L, 0, none⟩)] w (Ret w (fS (upT 2 n))) := by
  have h := c85 ⟨#[68, 69, 67, 50, 66, 73, 78]⟩ 2 4647697223260307456 13871086852301127680 0 0 0 n L x p
  have H := Lib.hid (fun (W : World) (hW : Below w.heap.size w W) => h W hn (by decide) (by decide) (by decide) (hT.below hW hT4) (Nat.le_trans hT4 hW.size) (by kernel_rfl) (by kernel_rfl) (by kernel_rfl)
    (q_lt n _ _ lo55 (by omega) (by decide) (by omega)) (q_gt n _ _ hi55 (by omega) (by decide) (by omega)) (q_lt n 0 0 foi0 (by omega) (by decide) (by omega)) (hd.below hW))
  clear h hT hd
  go_enter Tryz.func55, Tryz.ntmps55
  go_wp2_with fail
  have hbA : Below w.heap.size w (w.alloc (.cells #[.string ⟨#[]⟩, .float .f64 0, .string ⟨#[]⟩, .slice none 0 0, .slice none 0 0, .bool false, .string ⟨#[]⟩, .int .u8 0, .pointer none, .pointer none] 68)) := (by repeat (first | (with_reducible exact Below.refl _ _) | (with_reducible assumption) | ((with_reducible refine Below.alloc ?_ ?_ _); rotate_left; focus (first | exact Nat.le_refl _ | omega | (simp; done) | (simp; omega))) | ((with_reducible refine Below.setCell ?_ ?_ _); rotate_left; focus (first | exact Nat.le_refl _ | omega | (simp; done) | (simp; omega))) | (with_reducible refine Below.drew ?_) | (with_reducible refine below_drewN ?_ _) | ((with_reducible refine below_via (by assumption) ?_ ?_); focus (first | exact Nat.le_refl _ | omega | (simp; done) | (simp; omega)))))
  have HZ := Lib.hid (z64_new w 68)
  generalize (w.alloc (.cells #[.string ⟨#[]⟩, .float .f64 0, .string ⟨#[]⟩, .slice none 0 0, .slice none 0 0, .bool false, .string ⟨#[]⟩, .int .u8 0, .pointer none, .pointer none] 68)) = W1 at hbA HZ ⊢
  refine (H.out W1 hbA).mono ?_
  rintro e w1 ⟨rfl, hb1⟩
  have hbw1 : Below w.heap.size w w1 := keepS hb1 hbA
  obtain ⟨zl, z0, z1, z2, z3, z4, z5, z6, z7, z8, z9, zf⟩ := HZ.out.below hb1
  unfold fS
  go_wp2_with fail
  (refine bodyPost_ret (v := .agg #[.string ⟨#[]⟩, .float .f64 0, .string (upT 2 n), .slice none 0 0, .slice none 0 0, .bool false, .string ⟨#[]⟩, .int .u8 2, .pointer none, .pointer none]) ?_ rfl ?_; (focus (first | (simp [results, Tryz.results55, go_sem, hc1, hz1]; done) | (simp [results, Tryz.results55, go_sem]; done) | (simp [results, Tryz.results55, go_sem, *]; done))); exact ret_mk (by repeat (first | (with_reducible exact Below.refl _ _) | (with_reducible assumption) | ((with_reducible refine Below.alloc ?_ ?_ _); rotate_left; focus (first | exact Nat.le_refl _ | omega | (simp; done) | (simp; omega))) | ((with_reducible refine Below.setCell ?_ ?_ _); rotate_left; focus (first | exact Nat.le_refl _ | omega | (simp; done) | (simp; omega))) | (with_reducible refine Below.drew ?_) | (with_reducible refine below_drewN ?_ _) | ((with_reducible refine below_via (by assumption) ?_ ?_); focus (first | exact Nat.le_refl _ | omega | (simp; done) | (simp; omega))))))
/-- said of DEC2BIN. -/
theorem said23 (n g c : Nat) (w : World) (hn : n ≤ 511) (hT : Tab w) (hT4 : 15 ≤ w.heap.size) (hx : VRow w (some ⟨g, 0, none⟩) [vN n]) :
    Calls Tryz.prog 19 #[.func (.func 23) #[] #[], .slice (some ⟨g, 0, none⟩) 1 c] w (Ret w (.agg #[.int .i64 2, .int .i64 0, .int .i64 0, .string (upT 2 n), .slice none 0 0])) := by
  have hva : ∀ v, v ∈ [vN n] → VA v := by
    intro v hv
    simp at hv
    subst hv
    exact va_n n (by omega)
  refine c19T 23 ofA [vN n] (some ⟨g, 0, none⟩) c _ (upT 2 n) (by simp) (by simp) hx (fun v hv w' => c44A v (hva v hv) w') enters23 ?_
  intro W A' c' hbW hI
  refine c23 (fS (upT 2 n)) ⟨2, 0, upT 2 n⟩ _ A' c' W (by simp) (by simp) hI ?_ ?_ (fun W => c45_S (upT 2 n) W)
  · intro i hi
    obtain ⟨v, hv, rfl⟩ := List.mem_map.1 hi
    exact aok_of v (hva v hv)
  · intro W1 p L bs hb1 hl hd
    obtain ⟨x, rfl⟩ := one_of L bs (by simpa using hl)
    have hb1w : Below w.heap.size w W1 := keepS hb1 hbW
    exact c55 n L x (.pointer p) W1 hn (hT.below hb1w hT4) (Nat.le_trans hT4 hb1w.size) hd
theorem enters24 (args : Array Value) (W : World) : (callFunc 24 args).run Tryz.prog W = .ok (.enter 24 args) W := by simp [go_sem]
theorem hi56 : floatOfInt FloatKind.f64 536870911 = 4737786807976984576 := by decide
theorem lo56 : floatOfInt FloatKind.f64 (-536870912) = 13961158844848537600 := by decide
set_option maxRecDepth 100000 in
set_option maxHeartbeats 1000000 in
theorem c56 (n L x : Nat) (p : Value) (w : World) (hn : n ≤ 511) (hT : Tab w) (hT4 : 15 ≤ w.heap.size) (hd : DL w L [x] [.iface 68 (fN (floatOfInt FloatKind.f64 (n : Int)))]) :
    Calls Tryz.prog 56 #[p, .pointer (some ⟨L, 0, none⟩)] w (Ret w (fS (upT 8 n))) := by
  have h := c85 ⟨#[68, 69, 67, 50, 79, 67, 84]⟩ 8 4737786807976984576 13961158844848537600 7 7 7 n L x p
  have H := Lib.hid (fun (W : World) (hW : Below w.heap.size w W) => h W hn (by decide) (by decide) (by decide) (hT.below hW hT4) (Nat.le_trans hT4 hW.size) (by kernel_rfl) (by kernel_rfl) (by kernel_rfl)
    (q_lt n _ _ lo56 (by omega) (by decide) (by omega)) (q_gt n _ _ hi56 (by omega) (by decide) (by omega)) (q_lt n 0 0 foi0 (by omega) (by decide) (by omega)) (hd.below hW))
  clear h hT hd
  go_enter Tryz.func56, Tryz.ntmps56
  go_wp2_with fail
  have hbA : Below w.heap.size w (w.alloc (.cells #[.string ⟨#[]⟩, .float .f64 0, .string ⟨#[]⟩, .slice none 0 0, .slice none 0 0, .bool false, .string ⟨#[]⟩, .int .u8 0, .pointer none, .pointer none] 68)) := (by repeat (first | (with_reducible exact Below.refl _ _) | (with_reducible assumption) | ((with_reducible refine Below.alloc ?_ ?_ _); rotate_left; focus (first | exact Nat.le_refl _ | omega | (simp; done) | (simp; omega))) | ((with_reducible refine Below.setCell ?_ ?_ _); rotate_left; focus (first | exact Nat.le_refl _ | omega | (simp; done) | (simp; omega))) | (with_reducible refine Below.drew ?_) | (with_reducible refine below_drewN ?_ _) | ((with_reducible refine below_via (by assumption) ?_ ?_); focus (first | exact Nat.le_refl _ | omega | (simp; done) | (simp; omega)))))
  have HZ := Lib.hid (z64_new w 68)
  generalize (w.alloc (.cells #[.string ⟨#[]⟩, .float .f64 0, .string ⟨#[]⟩, .slice none 0 0, .slice none 0 0, .bool false, .string ⟨#[]⟩, .int .u8 0, .pointer none, .pointer none] 68)) = W1 at hbA HZ ⊢
  refine (H.out W1 hbA).mono ?_
  rintro e w1 ⟨rfl, hb1⟩
  have hbw1 : Below w.heap.size w w1 := keepS hb1 hbA
  obtain ⟨zl, z0, z1, z2, z3, z4, z5, z6, z7, z8, z9, zf⟩ := HZ.out.below hb1
  unfold fS
  go_wp2_with fail
  (refine bodyPost_ret (v := .agg #[.string ⟨#[]⟩, .float .f64 0, .string (upT 8 n), .slice none 0 0, .slice none 0 0, .bool false, .string ⟨#[]⟩, .int .u8 2, .pointer none, .pointer none]) ?_ rfl ?_; (focus (first | (simp [results, Tryz.results56, go_sem, hc1, hz1]; done) | (simp [results, Tryz.results56, go_sem]; done) | (simp [results, Tryz.results56, go_sem, *]; done))); exact ret_mk (by repeat (first | (with_reducible exact Below.refl _ _) | (with_reducible assumption) | ((with_reducible refine Below.alloc ?_ ?_ _); rotate_left; focus (first | exact Nat.le_refl _ | omega | (simp; done) | (simp; omega))) | ((with_reducible refine Below.setCell ?_ ?_ _); rotate_left; focus (first | exact Nat.le_refl _ | omega | (simp; done) | (simp; omega))) | (with_reducible refine Below.drew ?_) | (with_reducible refine below_drewN ?_ _) | ((with_reducible refine below_via (by assumption) ?_ ?_); focus (first | exact Nat.le_refl _ | omega | (simp; done) | (simp; omega))))))
/-- said of DEC2OCT. -/
theorem said24 (n g c : Nat) (w : World) (hn : n ≤ 511) (hT : Tab w) (hT4 : 15 ≤ w.heap.size) (hx : VRow w (some ⟨g, 0, none⟩) [vN n]) :
    Calls Tryz.prog 19 #[.func (.func 24) #[] #[], .slice (some ⟨g, 0, none⟩) 1 c] w (Ret w (.agg #[.int .i64 2, .int .i64 0, .int .i64 0, .string (upT 8 n), .slice none 0 0])) := by
  have hva : ∀ v, v ∈ [vN n] → VA v := by
    intro v hv
    simp at hv
    subst hv
    exact va_n n (by omega)
  refine c19T 24 ofA [vN n] (some ⟨g, 0, none⟩) c _ (upT 8 n) (by simp) (by simp) hx (fun v hv w' => c44A v (hva v hv) w') enters24 ?_
  intro W A' c' hbW hI
  refine c24 (fS (upT 8 n)) ⟨2, 0, upT 8 n⟩ _ A' c' W (by simp) (by simp) hI ?_ ?_ (fun W => c45_S (upT 8 n) W)
  · intro i hi
    obtain ⟨v, hv, rfl⟩ := List.mem_map.1 hi
    exact aok_of v (hva v hv)
  · intro W1 p L bs hb1 hl hd
    obtain ⟨x, rfl⟩ := one_of L bs (by simpa using hl)
    have hb1w : Below w.heap.size w W1 := keepS hb1 hbW
    exact c56 n L x (.pointer p) W1 hn (hT.below hb1w hT4) (Nat.le_trans hT4 hb1w.size) hd
theorem enters25 (args : Array Value) (W : World) : (callFunc 25 args).run Tryz.prog W = .ok (.enter 25 args) W := by simp [go_sem]
theorem hi57 : floatOfInt FloatKind.f64 549755813887 = 4782822804267450368 := by decide
theorem lo57 : floatOfInt FloatKind.f64 (-549755813888) = 14006194841122242560 := by decide
set_option maxRecDepth 100000 in
set_option maxHeartbeats 1000000 in
theorem c57 (n L x : Nat) (p : Value) (w : World) (hn : n ≤ 511) (hT : Tab w) (hT4 : 15 ≤ w.heap.size) (hd : DL w L [x] [.iface 68 (fN (floatOfInt FloatKind.f64 (n : Int)))]) :
    Calls Tryz.prog 57 #[p, .pointer (some ⟨L, 0, none⟩)] w (Ret w (fS (upT 16 n))) := by
  have h := c85 ⟨#[68, 69, 67, 50, 72, 69, 88]⟩ 16 4782822804267450368 14006194841122242560 4 4 4 n L x p
  have H := Lib.hid (fun (W : World) (hW : Below w.heap.size w W) => h W hn (by decide) (by decide) (by decide) (hT.below hW hT4) (Nat.le_trans hT4 hW.size) (by kernel_rfl) (by kernel_rfl) (by kernel_rfl)
    (q_lt n _ _ lo57 (by omega) (by decide) (by omega)) (q_gt n _ _ hi57 (by omega) (by decide) (by omega)) (q_lt n 0 0 foi0 (by omega) (by decide) (by omega)) (hd.below hW))
  clear h hT hd
  go_enter Tryz.func57, Tryz.ntmps57
  go_wp2_with fail
  have hbA : Below w.heap.size w (w.alloc (.cells #[.string ⟨#[]⟩, .float .f64 0, .string ⟨#[]⟩, .slice none 0 0, .slice none 0 0, .bool false, .string ⟨#[]⟩, .int .u8 0, .pointer none, .pointer none] 68)) := (by repeat (first | (with_reducible exact Below.refl _ _) | (with_reducible assumption) | ((with_reducible refine Below.alloc ?_ ?_ _); rotate_left; focus (first | exact Nat.le_refl _ | omega | (simp; done) | (simp; omega))) | ((with_reducible refine Below.setCell ?_ ?_ _); rotate_left; focus (first | exact Nat.le_refl _ | omega | (simp; done) | (simp; omega))) | (with_reducible refine Below.drew ?_) | (with_reducible refine below_drewN ?_ _) | ((with_reducible refine below_via (by assumption) ?_ ?_); focus (first | exact Nat.le_refl _ | omega | (simp; done) | (simp; omega)))))
  have HZ := Lib.hid (z64_new w 68)
  generalize (w.alloc (.cells #[.string ⟨#[]⟩, .float .f64 0, .string ⟨#[]⟩, .slice none 0 0, .slice none 0 0, .bool false, .string ⟨#[]⟩, .int .u8 0, .pointer none, .pointer none] 68)) = W1 at hbA HZ ⊢
  refine (H.out W1 hbA).mono ?_
  rintro e w1 ⟨rfl, hb1⟩
  have hbw1 : Below w.heap.size w w1 := keepS hb1 hbA
  obtain ⟨zl, z0, z1, z2, z3, z4, z5, z6, z7, z8, z9, zf⟩ := HZ.out.below hb1
  unfold fS
  go_wp2_with fail
  (refine bodyPost_ret (v := .agg #[.string ⟨#[]⟩, .float .f64 0, .string (upT 16 n), .slice none 0 0, .slice none 0 0, .bool false, .string ⟨#[]⟩, .int .u8 2, .pointer none, .pointer none]) ?_ rfl ?_; (focus (first | (simp [results, Tryz.results57, go_sem, hc1, hz1]; done) | (simp [results, Tryz.results57, go_sem]; done) | (simp [results, Tryz.results57, go_sem, *]; done))); exact ret_mk (by repeat (first | (with_reducible exact Below.refl _ _) | (with_reducible assumption) | ((with_reducible refine Below.alloc ?_ ?_ _); rotate_left; focus (first | exact Nat.le_refl _ | omega | (simp; done) | (simp; omega))) | ((with_reducible refine Below.setCell ?_ ?_ _); rotate_left; focus (first | exact Nat.le_refl _ | omega | (simp; done) | (simp; omega))) | (with_reducible refine Below.drew ?_) | (with_reducible refine below_drewN ?_ _) | ((with_reducible refine below_via (by assumption) ?_ ?_); focus (first | exact Nat.le_refl _ | omega | (simp; done) | (simp; omega))))))
/-- said of DEC2HEX. -/
theorem said25 (n g c : Nat) (w : World) (hn : n ≤ 511) (hT : Tab w) (hT4 : 15 ≤ w.heap.size) (hx : VRow w (some ⟨g, 0, none⟩) [vN n]) :
    Calls Tryz.prog 19 #[.func (.func 25) #[] #[], .slice (some ⟨g, 0, none⟩) 1 c] w (Ret w (.agg #[.int .i64 2, .int .i64 0, .int .i64 0, .string (upT 16 n), .slice none 0 0])) := by
  have hva : ∀ v, v ∈ [vN n] → VA v := by
    intro v hv
    simp at hv
    subst hv
    exact va_n n (by omega)
  refine c19T 25 ofA [vN n] (some ⟨g, 0, none⟩) c _ (upT 16 n) (by simp) (by simp) hx (fun v hv w' => c44A v (hva v hv) w') enters25 ?_
  intro W A' c' hbW hI
  refine c25 (fS (upT 16 n)) ⟨2, 0, upT 16 n⟩ _ A' c' W (by simp) (by simp) hI ?_ ?_ (fun W => c45_S (upT 16 n) W)
  · intro i hi
    obtain ⟨v, hv, rfl⟩ := List.mem_map.1 hi
    exact aok_of v (hva v hv)
  · intro W1 p L bs hb1 hl hd
    obtain ⟨x, rfl⟩ := one_of L bs (by simpa using hl)
    have hb1w : Below w.heap.size w W1 := keepS hb1 hbW
    exact c57 n L x (.pointer p) W1 hn (hT.below hb1w hT4) (Nat.le_trans hT4 hb1w.size) hd
end Go.Proofs.YtkhgaenffnoimaaGreatDoor
