/- The criteria parser: the number of a condition. -/
import Derived.Test.YtkhgaenffnoimaaGreatDoorKH
import Derived.Test.YtkhgaenffnoimaaGreatDoorM9
set_option linter.unusedSimpArgs false
set_option linter.unusedVariables false
namespace Go.Proofs.YtkhgaenffnoimaaGreatDoor
open Go.RowKit FL
attribute [local go_sem] run_store_float
theorem one_foi : (4607182418800017408 : Nat) = floatOfInt FloatKind.f64 1 := by decide +kernel
theorem mul_one_foi (k : Int) (h : k.natAbs ≤ 9999) (W : World) :
    (binOp BinOp.mul 24 (.float FloatKind.f64 (floatOfInt FloatKind.f64 k)) (.float FloatKind.f64 4607182418800017408)).run Tryz.prog W = .ok (.float FloatKind.f64 (floatOfInt FloatKind.f64 k)) W := by
  rw [one_foi, foi_F16 _ (by omega), foi_F16 1 (by decide)]
  exact run_float_arith W _ _ _ _ _ _ (mul_F16 (16 * k) (16 * 1) (16 * k) (by omega) (by decide) (by omega) (by omega) (by omega))
theorem no_percent {s : ByteArray} (h : NumT s) : Lib.hasSuffix s.data.toList (⟨#[37]⟩ : ByteArray).data.toList = false := by
  unfold Lib.hasSuffix
  cases h2 : (⟨#[37]⟩ : ByteArray).data.toList.isSuffixOf s.data.toList with
  | false => rfl
  | true =>
    have h3 := (List.isSuffixOf_iff_suffix.1 h2).subset (List.mem_cons_self ..)
    exact absurd rfl (h.all _ h3).2
set_option maxRecDepth 100000 in
set_option maxHeartbeats 2000000 in
theorem c96 (k : Int) (w : World) (hk : k.natAbs ≤ 9999) (hT : FT w) :
    Calls Tryz.prog 96 #[.string (plainS k)] w (fun e w' => e = .returned (.tuple #[.float .f64 (floatOfInt FloatKind.f64 k), .nilIface]) ∧ w' = w) := by
  have hsz : (plainS k).size ≤ 100 := by rw [plainS_size]; have := nDigits_le6 k.natAbs (by omega); split <;> omega
  have h1 : Calls Tryz.prog 97 #[.string (plainS k), .string ⟨#[37]⟩] w (fun e w' => e = .returned (.bool false) ∧ w' = w) := by
    have := Tryz.strings_HasSuffix (plainS k) ⟨#[37]⟩ w (by omega)
    rw [no_percent (numT k)] at this
    exact this
  have H1 := Lib.hid h1
  have H2 := Lib.hid (c95 k w hk hT)
  have H3 := mul_one_foi k hk w
  clear h1 hT hk hsz
  generalize plainS k = s at *
  generalize floatOfInt FloatKind.f64 k = f at *
  go_enter Tryz.func96, Tryz.ntmps96
  go_wp2_with fail
  refine H1.out.mono ?_
  rintro e w1 ⟨rfl, rfl⟩
  go_wp2_with fail
  refine H2.out.mono ?_
  rintro e w1 ⟨rfl, rfl⟩
  go_wp2_with fail
  go_ret2
  exact ⟨rfl, rfl⟩
end Go.Proofs.YtkhgaenffnoimaaGreatDoor
/- formulaCriteriaParser. -/
set_option linter.unusedSimpArgs false
set_option linter.unusedVariables false
namespace Go.Proofs.YtkhgaenffnoimaaGreatDoor
open Go.RowKit FL
attribute [local go_sem] run_store_float
structure CritC (w : World) (g o b : Nat) : Prop where
  lt : g < w.heap.size
  at0 : w.cell? ⟨g, 0, none⟩ = some (.int .u8 o)
  at1 : ∀ (j : Nat) v, (fNc b)[j]? = some v → w.cell? ⟨g, 1 + j, none⟩ = some v
theorem CritC.below {w w1 : World} {g o b B : Nat} (h : CritC w g o b) (hb : Below B w w1) (hg : g < B) : CritC w1 g o b :=
  ⟨Nat.lt_of_lt_of_le h.lt hb.size, (hb.cell (p := ⟨g, 0, none⟩) hg).trans h.at0, fun j v hj => (hb.cell (p := ⟨g, 1 + j, none⟩) hg).trans (h.at1 j v hj)⟩
/-- Block g holds these values, free to be written. -/
structure LB (w : World) (g : Nat) (vs : List Value) : Prop where
  lt : g < w.heap.size
  c : ∀ (j : Nat) v, vs[j]? = some v → w.cell? ⟨g, j, none⟩ = some v
  fr : ∀ j, w.frozen? ⟨g, j, none⟩ = false
theorem LB.below {w w1 : World} {g B : Nat} {vs : List Value} (h : LB w g vs) (hb : Below B w w1) (hg : g < B) : LB w1 g vs :=
  ⟨Nat.lt_of_lt_of_le h.lt hb.size, fun j v hj => (hb.cell (p := ⟨g, j, none⟩) hg).trans (h.c j v hj), fun j => (hb.frozen (p := ⟨g, j, none⟩) hg).trans (h.fr j)⟩
theorem lb_alloc (w : World) (vs : List Value) (t : TypeId) : LB (w.alloc (.cells vs.toArray t)) w.heap.size vs :=
  ⟨by simp, fun j v hj => by
    show (World.alloc w _).cell? _ = _
    rw [World.cell?_alloc_new]
    simpa using hj, fun j => frozen_alloc _ _ _ _⟩
theorem crit_of_lb {w : World} {g o b : Nat} (h : LB w g (.int .u8 o :: fNc b)) : CritC w g o b :=
  ⟨h.lt, h.c 0 _ rfl, fun j v hj => by rw [Nat.add_comm]; exact h.c (j + 1) v hj⟩
theorem lb_set {w : World} {g j : Nat} {vs : List Value} (v : Value) (h : LB w g vs) (hj : j < vs.length) : LB (w.setCell ⟨g, j, none⟩ v) g (vs.set j v) := by
  have hc := h.c j _ (List.getElem?_eq_getElem hj)
  refine ⟨by simpa using h.lt, fun i u hu => ?_, fun i => ?_⟩
  · by_cases hij : i = j
    · subst hij
      rw [List.getElem?_set_self hj] at hu
      obtain rfl := Option.some.inj hu
      simp [go_sem, hc]
    · rw [List.getElem?_set_ne (fun e => hij e.symm)] at hu
      have := h.c i u hu
      simp [go_sem, hij, this, Ne.symm hij]
  · simpa [go_sem] using h.fr i
def z11 : List Value := [.int .u8 0, .string ⟨#[]⟩, .float .f64 0, .string ⟨#[]⟩, .slice none 0 0, .slice none 0 0, .bool false, .string ⟨#[]⟩, .int .u8 0, .pointer none, .pointer none]
theorem c78_Su (t : ByteArray) (w : World) : Calls Tryz.prog 78 #[.agg #[.string ⟨#[]⟩, .float .f64 0, .string t, .slice none 0 0, .slice none 0 0, .bool false, .string ⟨#[]⟩, .int .u8 2, .pointer none, .pointer none]] w (Ret w (.string t)) := c78_S t w
set_option maxRecDepth 100000 in
set_option maxHeartbeats 4000000 in
theorem c74 (s : ByteArray) (o : Nat) (k : Int) (w : World) (hk : k.natAbs ≤ 9999) (hT : FT w) (hne : s.toList.isEmpty = false)
    (h99 : ∀ W, Calls Tryz.prog 99 #[.string s] W (Ret W (.tuple #[.int .u8 o, .string (plainS k), .bool true]))) :
    Calls Tryz.prog 74 #[fS s] w (fun e w' => ∃ g, e = .returned (.pointer (some ⟨g, 0, none⟩)) ∧ w.heap.size ≤ g ∧ CritC w' g o (floatOfInt FloatKind.f64 k) ∧ Below w.heap.size w w') := by
  have H99 := Lib.hid h99
  have H96 : Hid (∀ W, Below w.heap.size w W → Calls Tryz.prog 96 #[.string (plainS k)] W (fun e w' => e = .returned (.tuple #[.float .f64 (floatOfInt FloatKind.f64 k), .nilIface]) ∧ w' = W)) := Lib.hid fun W hW => c96 k W hk (hT.below hW hT.1)
  have HF : Hid (FOK (floatOfInt FloatKind.f64 k)) := Lib.hid (foi_ok k (by omega))
  clear h99 hk hT
  generalize plainS k = num at *
  generalize floatOfInt FloatKind.f64 k = f at *
  unfold fS
  go_enter Tryz.func74, Tryz.ntmps74
  go_wp2_with fail
  generalize hW : World.alloc (World.alloc w _) _ = W0
  have hb0 : Below w.heap.size w W0 := by rw [← hW]; exact (by repeat (first | (with_reducible exact Below.refl _ _) | (with_reducible assumption) | ((with_reducible refine Below.alloc ?_ ?_ _); rotate_left; focus (first | exact Nat.le_refl _ | omega | (simp; done) | (simp; omega))) | ((with_reducible refine Below.setCell ?_ ?_ _); rotate_left; focus (first | exact Nat.le_refl _ | omega | (simp; done) | (simp; omega))) | (with_reducible refine Below.drew ?_) | (with_reducible refine below_drewN ?_ _) | ((with_reducible refine below_via (by assumption) ?_ ?_); focus (first | exact Nat.le_refl _ | omega | (simp; done) | (simp; omega)))))
  have hs0 : W0.heap.size = w.heap.size + 2 := by rw [← hW]; simp
  have HZ0 : LB W0 (w.heap.size + 1) z11 := by
    rw [← hW]
    have := lb_alloc (w.alloc (.cells #[.string ⟨#[]⟩, .float .f64 0, .string s, .slice none 0 0, .slice none 0 0, .bool false, .string ⟨#[]⟩, .int .u8 2, .pointer none, .pointer none] 68)) z11 101
    rw [show (w.alloc (.cells #[.string ⟨#[]⟩, .float .f64 0, .string s, .slice none 0 0, .slice none 0 0, .bool false, .string ⟨#[]⟩, .int .u8 2, .pointer none, .pointer none] 68)).heap.size = w.heap.size + 1 by simp] at this
    exact this
  clear hW
  refine (c78_Su s W0).mono ?_
  rintro e w1 ⟨rfl, hb1⟩
  have hbA : Below w.heap.size w w1 := hb0.trans (hb1.mono hb0.size)
  have hs1 : w.heap.size + 1 < w1.heap.size := by have := hb1.size; omega
  have HZ1 := HZ0.below hb1 HZ0.lt
  clear HZ0 hb1 hb0 hs0
  go_wp2_with fail
  refine (H99.out w1).mono ?_
  rintro e w2 ⟨rfl, hb2⟩
  have hbB : Below w.heap.size w w2 := hbA.trans (hb2.mono hbA.size)
  have hs2 : w.heap.size + 1 < w2.heap.size := by have := hb2.size; omega
  have HZ2 := HZ1.below hb2 HZ1.lt
  clear HZ1 hb2 hbA hs1
  go_wp2_with fail
  refine (c81u num w2).mono ?_
  rintro e w3 ⟨rfl, hb3⟩
  have hbC : Below w.heap.size w w3 := hbB.trans (hb3.mono hbB.size)
  have hs3 : w.heap.size + 1 < w3.heap.size := by have := hb3.size; omega
  have HZ3 := HZ2.below hb3 HZ2.lt
  clear HZ2 hb3 hbB hs2
  have z0 := HZ3.c 0 _ rfl
  have z1 := HZ3.c 1 _ rfl
  have z2 := HZ3.c 2 _ rfl
  have z3 := HZ3.c 3 _ rfl
  have z4 := HZ3.c 4 _ rfl
  have z5 := HZ3.c 5 _ rfl
  have z6 := HZ3.c 6 _ rfl
  have z7 := HZ3.c 7 _ rfl
  have z8 := HZ3.c 8 _ rfl
  have z9 := HZ3.c 9 _ rfl
  have z10 := HZ3.c 10 _ rfl
  have zf := HZ3.fr
  have HH3 := Lib.hid HZ3
  clear HZ3
  go_wp2_with fail
  generalize hW3 : World.setCell _ _ _ = W3
  have hbD : Below w.heap.size w W3 := by rw [← hW3]; exact (by repeat (first | (with_reducible exact Below.refl _ _) | (with_reducible assumption) | ((with_reducible refine Below.alloc ?_ ?_ _); rotate_left; focus (first | exact Nat.le_refl _ | omega | (simp; done) | (simp; omega))) | ((with_reducible refine Below.setCell ?_ ?_ _); rotate_left; focus (first | exact Nat.le_refl _ | omega | (simp; done) | (simp; omega))) | (with_reducible refine Below.drew ?_) | (with_reducible refine below_drewN ?_ _) | ((with_reducible refine below_via (by assumption) ?_ ?_); focus (first | exact Nat.le_refl _ | omega | (simp; done) | (simp; omega)))))
  have hs4 : w.heap.size + 1 < W3.heap.size := by rw [← hW3]; simpa using hs3
  have HZ4 : LB W3 (w.heap.size + 1) [.int .u8 0, .string ⟨#[]⟩, .float .f64 0, .string num, .slice none 0 0, .slice none 0 0, .bool false, .string ⟨#[]⟩, .int .u8 2, .pointer none, .pointer none] := by
    rw [← hW3]
    exact lb_set (.pointer none) (lb_set (.pointer none) (lb_set (.int .u8 2) (lb_set (.string ⟨#[]⟩) (lb_set (.bool false) (lb_set (.slice none 0 0) (lb_set (.slice none 0 0) (lb_set (.string num) (lb_set (.float .f64 0) (lb_set (.string ⟨#[]⟩) HH3.out (by simp [z11])) (by simp [z11])) (by simp [z11])) (by simp [z11])) (by simp [z11])) (by simp [z11])) (by simp [z11])) (by simp [z11])) (by simp [z11])) (by simp [z11])
  clear z0 z1 z2 z3 z4 z5 z6 z7 z8 z9 z10 zf HH3 hW3 hbC hs3
  refine (H96.out W3 hbD).mono ?_
  rintro e w4 ⟨rfl, rfl⟩
  go_wp2_with fail
  refine (c63' f w4 HF.out).mono ?_
  rintro e w5 ⟨rfl, hb5⟩
  have hbE : Below w.heap.size w w5 := hbD.trans (hb5.mono hbD.size)
  have hs5 : w.heap.size + 1 < w5.heap.size := by have := hb5.size; omega
  have HZ5 := HZ4.below hb5 HZ4.lt
  clear HZ4 hb5 hbD hs4
  have z0 := HZ5.c 0 _ rfl
  have z1 := HZ5.c 1 _ rfl
  have z2 := HZ5.c 2 _ rfl
  have z3 := HZ5.c 3 _ rfl
  have z4 := HZ5.c 4 _ rfl
  have z5 := HZ5.c 5 _ rfl
  have z6 := HZ5.c 6 _ rfl
  have z7 := HZ5.c 7 _ rfl
  have z8 := HZ5.c 8 _ rfl
  have z9 := HZ5.c 9 _ rfl
  have z10 := HZ5.c 10 _ rfl
  have zf := HZ5.fr
  have HH5 := Lib.hid HZ5
  clear HZ5
  go_wp2_with fail
  go_ret
  refine ⟨w.heap.size + 1, rfl, by omega, crit_of_lb ?_, (by repeat (first | (with_reducible exact Below.refl _ _) | (with_reducible assumption) | ((with_reducible refine Below.alloc ?_ ?_ _); rotate_left; focus (first | exact Nat.le_refl _ | omega | (simp; done) | (simp; omega))) | ((with_reducible refine Below.setCell ?_ ?_ _); rotate_left; focus (first | exact Nat.le_refl _ | omega | (simp; done) | (simp; omega))) | (with_reducible refine Below.drew ?_) | (with_reducible refine below_drewN ?_ _) | ((with_reducible refine below_via (by assumption) ?_ ?_); focus (first | exact Nat.le_refl _ | omega | (simp; done) | (simp; omega)))))⟩
  exact lb_set (.int .u8 o) (lb_set (.pointer none) (lb_set (.pointer none) (lb_set (.int .u8 1) (lb_set (.string ⟨#[]⟩) (lb_set (.bool false) (lb_set (.slice none 0 0) (lb_set (.slice none 0 0) (lb_set (.string ⟨#[]⟩) (lb_set (.float .f64 f) (lb_set (.string ⟨#[]⟩) HH5.out (by simp)) (by simp)) (by simp)) (by simp)) (by simp)) (by simp)) (by simp)) (by simp)) (by simp)) (by simp)) (by simp)
end Go.Proofs.YtkhgaenffnoimaaGreatDoor
