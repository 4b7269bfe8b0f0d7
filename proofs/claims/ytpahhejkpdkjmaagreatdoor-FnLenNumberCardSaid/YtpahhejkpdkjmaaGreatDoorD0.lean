/- CallOver and Call of the reference, given what their parts do. -/
import Derived.Test.YtpahhejkpdkjmaaGreatDoorB7
set_option linter.unusedSimpArgs false
set_option linter.unusedVariables false
namespace Go.Proofs.YtpahhejkpdkjmaaGreatDoor
open Go.RowKit
attribute [local go_sem] run_store_float
/-- Block b is a new value's, free to be written. -/
structure ZCell (w : World) (b : Nat) : Prop where
  lt : b < w.heap.size
  c0 : w.cell? ⟨b, 0, none⟩ = some (.int .i64 0)
  c1 : w.cell? ⟨b, 1, none⟩ = some (.int .i64 0)
  c2 : w.cell? ⟨b, 2, none⟩ = some (.int .i64 0)
  c3 : w.cell? ⟨b, 3, none⟩ = some (.string ⟨#[]⟩)
  c4 : w.cell? ⟨b, 4, none⟩ = some (.slice none 0 0)
  f0 : w.frozen? ⟨b, 0, none⟩ = false
  f1 : w.frozen? ⟨b, 1, none⟩ = false
  f2 : w.frozen? ⟨b, 2, none⟩ = false
  f3 : w.frozen? ⟨b, 3, none⟩ = false
  f4 : w.frozen? ⟨b, 4, none⟩ = false
theorem ZCell.below {w w1 : World} {b : Nat} (h : ZCell w b) (hb : Below w.heap.size w w1) : ZCell w1 b :=
  ⟨Nat.lt_of_lt_of_le h.lt hb.size, (hb.cell (p := ⟨b, _, none⟩) h.lt).trans h.c0, (hb.cell (p := ⟨b, _, none⟩) h.lt).trans h.c1, (hb.cell (p := ⟨b, _, none⟩) h.lt).trans h.c2, (hb.cell (p := ⟨b, _, none⟩) h.lt).trans h.c3, (hb.cell (p := ⟨b, _, none⟩) h.lt).trans h.c4,
    (hb.frozen (p := ⟨b, _, none⟩) h.lt).trans h.f0, (hb.frozen (p := ⟨b, _, none⟩) h.lt).trans h.f1, (hb.frozen (p := ⟨b, _, none⟩) h.lt).trans h.f2, (hb.frozen (p := ⟨b, _, none⟩) h.lt).trans h.f3, (hb.frozen (p := ⟨b, _, none⟩) h.lt).trans h.f4⟩
theorem zcell_new (w : World) : ZCell (w.alloc (.cells #[.int .i64 0, .int .i64 0, .int .i64 0, .string ⟨#[]⟩, .slice none 0 0] 27)) w.heap.size :=
  ⟨by simp, by simp [go_sem], by simp [go_sem], by simp [go_sem], by simp [go_sem], by simp [go_sem], by simp [go_sem], by simp [go_sem], by simp [go_sem], by simp [go_sem], by simp [go_sem]⟩
/-- It returns a value of the reference without rows, of which R holds. -/
def VR (R : V → Prop) (r : Value) : Prop := ∃ u : V, r = .agg #[.int .i64 u.k, .int .i64 u.n, .int .i64 u.d, .string u.t, .slice none 0 0] ∧ R u
def TwoR (R : V → Prop) (r : Value) : Prop := ∃ u : V, r = .tuple #[.agg #[.int .i64 u.k, .int .i64 u.n, .int .i64 u.d, .string u.t, .slice none 0 0], .bool true] ∧ R u
set_option maxRecDepth 100000 in
set_option maxHeartbeats 4000000 in
theorem c29g (name : ByteArray) (A : Option Addr) (n c : Nat) (w : World) (F : Bool → Prop) (R : V → Prop)
    (h40 : ∀ W, Below w.heap.size w W → Calls Tryz.prog 40 #[.string name, .slice A n c] W (RetB W F))
    (h41 : ∀ W, Calls Tryz.prog 41 #[.string name, .slice A n c] W (Ret W (.tuple #[.agg #[.int .i64 0, .int .i64 0, .int .i64 0, .string ⟨#[]⟩, .slice none 0 0], .bool false])))
    (h42 : ∀ W, Calls Tryz.prog 42 #[.string name, .slice A n c] W (Ret W (.tuple #[.agg #[.int .i64 0, .int .i64 0, .int .i64 0, .string ⟨#[]⟩, .slice none 0 0], .bool false])))
    (h43 : ∀ W, Calls Tryz.prog 43 #[.string name, .slice A n c] W (Ret W (.tuple #[.agg #[.int .i64 0, .int .i64 0, .int .i64 0, .string ⟨#[]⟩, .slice none 0 0], .bool false])))
    (h44 : ∀ W, Calls Tryz.prog 44 #[.string name, .slice A n c] W (Ret W (.tuple #[.agg #[.int .i64 0, .int .i64 0, .int .i64 0, .string ⟨#[]⟩, .slice none 0 0], .bool false])))
    (h45 : ∀ W, Below w.heap.size w W → F true → Calls Tryz.prog 45 #[.string name, .slice A n c] W (RetV W (TwoR R))) :
    Calls Tryz.prog 29 #[.string name, .slice A n c, .slice A n c] w (RetV w (VR fun u => u = VD ∨ R u)) := by
  have H40 := Lib.hid h40
  have H41 := Lib.hid h41
  have H42 := Lib.hid h42
  have H43 := Lib.hid h43
  have H44 := Lib.hid h44
  have H45 := Lib.hid h45
  clear h40 h41 h42 h43 h44 h45
  go_enter Tryz.func29, Tryz.ntmps29
  go_wp2_with fail
  have HZ0 := Lib.hid (zcell_new w)
  generalize hW : World.alloc w _ = W0 at HZ0 ⊢
  have hB0 : Below w.heap.size w W0 := by rw [← hW]; exact (by repeat (first | (with_reducible exact Below.refl _ _) | (with_reducible assumption) | ((with_reducible refine Below.alloc ?_ ?_ _); rotate_left; focus (first | exact Nat.le_refl _ | omega | (simp; done) | (simp; omega))) | ((with_reducible refine Below.setCell ?_ ?_ _); rotate_left; focus (first | exact Nat.le_refl _ | omega | (simp; done) | (simp; omega))) | (with_reducible refine Below.drew ?_) | (with_reducible refine below_drewN ?_ _) | ((with_reducible refine below_via (by assumption) ?_ ?_); focus (first | exact Nat.le_refl _ | omega | (simp; done) | (simp; omega)))))
  have hsW : W0.heap.size = w.heap.size + 1 := by rw [← hW]; simp
  clear hW
  refine (H40.out W0 hB0).mono ?_
  rintro e w1 ⟨b, rfl, hf, hb1⟩
  have hB1 : Below w.heap.size w w1 := keepS hb1 hB0
  have HZ1 := Lib.hid (HZ0.out.below hb1)
  have hs1 := hb1.size
  clear hb1 HZ0
  cases b
  · clear hf
    go_wp2_with fail
    refine (c38 _).mono ?_
    rintro e w2 ⟨rfl, hb2⟩
    obtain ⟨hsz, q0, q1, q2, q3, q4, r0, r1, r2, r3, r4⟩ := HZ1.out.below hb2
    have hB2 : Below w.heap.size w w2 := keepS hb2 hB1
    clear hb2
    go_wp2_with fail
    (refine bodyPost_ret (v := .agg #[.int .i64 6, .int .i64 0, .int .i64 0, .string ⟨#[]⟩, .slice none 0 0]) ?_ rfl ?_; (focus (first | (simp [results, Tryz.results29, go_sem, hc1, hz1]; done) | (simp [results, Tryz.results29, go_sem]; done) | (simp [results, Tryz.results29, go_sem, *]; done))); exact retV_mk _ ⟨VD, rfl, .inl rfl⟩ (by repeat (first | (with_reducible exact Below.refl _ _) | (with_reducible assumption) | ((with_reducible refine Below.alloc ?_ ?_ _); rotate_left; focus (first | exact Nat.le_refl _ | omega | (simp; done) | (simp; omega))) | ((with_reducible refine Below.setCell ?_ ?_ _); rotate_left; focus (first | exact Nat.le_refl _ | omega | (simp; done) | (simp; omega))) | (with_reducible refine Below.drew ?_) | (with_reducible refine below_drewN ?_ _) | ((with_reducible refine below_via (by assumption) ?_ ?_); focus (first | exact Nat.le_refl _ | omega | (simp; done) | (simp; omega))))))
  · have HF := Lib.hid hf
    clear hf
    go_wp2_with (first
      | (go_at_call 41; refine (H41.out _).mono ?_; rintro e w2 ⟨rfl, hb2⟩; have hb2' : Below w1.heap.size w1 w2 := (by repeat (first | (with_reducible exact Below.refl _ _) | (with_reducible assumption) | ((with_reducible refine Below.alloc ?_ ?_ _); rotate_left; focus (first | exact Nat.le_refl _ | omega | (simp; done) | (simp; omega))) | ((with_reducible refine Below.setCell ?_ ?_ _); rotate_left; focus (first | exact Nat.le_refl _ | omega | (simp; done) | (simp; omega))) | (with_reducible refine Below.drew ?_) | (with_reducible refine below_drewN ?_ _) | ((with_reducible refine below_via (by assumption) ?_ ?_); focus (first | exact Nat.le_refl _ | omega | (simp; done) | (simp; omega))))); have HZ2 := Lib.hid (HZ1.out.below hb2'); have hs2 := hb2'.size; have hB2 : Below w.heap.size w w2 := keepS hb2' hB1; clear hb2 hb2')
      | (go_at_call 42; refine (H42.out _).mono ?_; rintro e w3 ⟨rfl, hb3⟩; have hb3' : Below w2.heap.size w2 w3 := (by repeat (first | (with_reducible exact Below.refl _ _) | (with_reducible assumption) | ((with_reducible refine Below.alloc ?_ ?_ _); rotate_left; focus (first | exact Nat.le_refl _ | omega | (simp; done) | (simp; omega))) | ((with_reducible refine Below.setCell ?_ ?_ _); rotate_left; focus (first | exact Nat.le_refl _ | omega | (simp; done) | (simp; omega))) | (with_reducible refine Below.drew ?_) | (with_reducible refine below_drewN ?_ _) | ((with_reducible refine below_via (by assumption) ?_ ?_); focus (first | exact Nat.le_refl _ | omega | (simp; done) | (simp; omega))))); have HZ3 := Lib.hid (HZ2.out.below hb3'); have hs3 := hb3'.size; have hB3 : Below w.heap.size w w3 := keepS hb3' hB2; clear hb3 hb3')
      | (go_at_call 43; refine (H43.out _).mono ?_; rintro e w4 ⟨rfl, hb4⟩; have hb4' : Below w3.heap.size w3 w4 := (by repeat (first | (with_reducible exact Below.refl _ _) | (with_reducible assumption) | ((with_reducible refine Below.alloc ?_ ?_ _); rotate_left; focus (first | exact Nat.le_refl _ | omega | (simp; done) | (simp; omega))) | ((with_reducible refine Below.setCell ?_ ?_ _); rotate_left; focus (first | exact Nat.le_refl _ | omega | (simp; done) | (simp; omega))) | (with_reducible refine Below.drew ?_) | (with_reducible refine below_drewN ?_ _) | ((with_reducible refine below_via (by assumption) ?_ ?_); focus (first | exact Nat.le_refl _ | omega | (simp; done) | (simp; omega))))); have HZ4 := Lib.hid (HZ3.out.below hb4'); have hs4 := hb4'.size; have hB4 : Below w.heap.size w w4 := keepS hb4' hB3; clear hb4 hb4')
      | (go_at_call 44; refine (H44.out _).mono ?_; rintro e w5 ⟨rfl, hb5⟩; have hb5' : Below w4.heap.size w4 w5 := (by repeat (first | (with_reducible exact Below.refl _ _) | (with_reducible assumption) | ((with_reducible refine Below.alloc ?_ ?_ _); rotate_left; focus (first | exact Nat.le_refl _ | omega | (simp; done) | (simp; omega))) | ((with_reducible refine Below.setCell ?_ ?_ _); rotate_left; focus (first | exact Nat.le_refl _ | omega | (simp; done) | (simp; omega))) | (with_reducible refine Below.drew ?_) | (with_reducible refine below_drewN ?_ _) | ((with_reducible refine below_via (by assumption) ?_ ?_); focus (first | exact Nat.le_refl _ | omega | (simp; done) | (simp; omega))))); have HZ5 := Lib.hid (HZ4.out.below hb5'); have hs5 := hb5'.size; have hB5 : Below w.heap.size w w5 := keepS hb5' hB4; clear hb5 hb5')
      | (go_at_call 45; refine (H45.out _ (by repeat (first | (with_reducible exact Below.refl _ _) | (with_reducible assumption) | ((with_reducible refine Below.alloc ?_ ?_ _); rotate_left; focus (first | exact Nat.le_refl _ | omega | (simp; done) | (simp; omega))) | ((with_reducible refine Below.setCell ?_ ?_ _); rotate_left; focus (first | exact Nat.le_refl _ | omega | (simp; done) | (simp; omega))) | (with_reducible refine Below.drew ?_) | (with_reducible refine below_drewN ?_ _) | ((with_reducible refine below_via (by assumption) ?_ ?_); focus (first | exact Nat.le_refl _ | omega | (simp; done) | (simp; omega))))) HF.out).mono ?_; rintro e w6 ⟨_, rfl, ⟨u, rfl, hr⟩, hb6⟩; have hb6' : Below w5.heap.size w5 w6 := (by repeat (first | (with_reducible exact Below.refl _ _) | (with_reducible assumption) | ((with_reducible refine Below.alloc ?_ ?_ _); rotate_left; focus (first | exact Nat.le_refl _ | omega | (simp; done) | (simp; omega))) | ((with_reducible refine Below.setCell ?_ ?_ _); rotate_left; focus (first | exact Nat.le_refl _ | omega | (simp; done) | (simp; omega))) | (with_reducible refine Below.drew ?_) | (with_reducible refine below_drewN ?_ _) | ((with_reducible refine below_via (by assumption) ?_ ?_); focus (first | exact Nat.le_refl _ | omega | (simp; done) | (simp; omega))))); obtain ⟨hsz, q0, q1, q2, q3, q4, r0, r1, r2, r3, r4⟩ := HZ5.out.below hb6'; have hs6 := hb6'.size; have hB6 : Below w.heap.size w w6 := keepS hb6' hB5; have HR := Lib.hid hr; clear hb6 hb6' hr))
    (refine bodyPost_ret (v := .agg #[.int .i64 u.k, .int .i64 u.n, .int .i64 u.d, .string u.t, .slice none 0 0]) ?_ rfl ?_; (focus (first | (simp [results, Tryz.results29, go_sem, hc1, hz1]; done) | (simp [results, Tryz.results29, go_sem]; done) | (simp [results, Tryz.results29, go_sem, *]; done))); exact retV_mk _ ⟨u, rfl, .inr HR.out⟩ (by repeat (first | (with_reducible exact Below.refl _ _) | (with_reducible assumption) | ((with_reducible refine Below.alloc ?_ ?_ _); rotate_left; focus (first | exact Nat.le_refl _ | omega | (simp; done) | (simp; omega))) | ((with_reducible refine Below.setCell ?_ ?_ _); rotate_left; focus (first | exact Nat.le_refl _ | omega | (simp; done) | (simp; omega))) | (with_reducible refine Below.drew ?_) | (with_reducible refine below_drewN ?_ _) | ((with_reducible refine below_via (by assumption) ?_ ?_); focus (first | exact Nat.le_refl _ | omega | (simp; done) | (simp; omega))))))
set_option maxRecDepth 100000 in
set_option maxHeartbeats 4000000 in
theorem c17g (name : ByteArray) (A : Option Addr) (n c : Nat) (w : World) (R : V → Prop)
    (h29 : ∀ W, Below w.heap.size w W → Calls Tryz.prog 29 #[.string name, .slice A n c, .slice A n c] W (RetV W (VR R))) :
    Calls Tryz.prog 17 #[.string name, .slice A n c] w (RetV w (VR R)) := by
  have H29 := Lib.hid h29
  clear h29
  go_enter Tryz.func17, Tryz.ntmps17
  go_wp2_with fail
  have HZ0 := Lib.hid (zcell_new w)
  generalize hW : World.alloc w _ = W0 at HZ0 ⊢
  have hB0 : Below w.heap.size w W0 := by rw [← hW]; exact (by repeat (first | (with_reducible exact Below.refl _ _) | (with_reducible assumption) | ((with_reducible refine Below.alloc ?_ ?_ _); rotate_left; focus (first | exact Nat.le_refl _ | omega | (simp; done) | (simp; omega))) | ((with_reducible refine Below.setCell ?_ ?_ _); rotate_left; focus (first | exact Nat.le_refl _ | omega | (simp; done) | (simp; omega))) | (with_reducible refine Below.drew ?_) | (with_reducible refine below_drewN ?_ _) | ((with_reducible refine below_via (by assumption) ?_ ?_); focus (first | exact Nat.le_refl _ | omega | (simp; done) | (simp; omega)))))
  clear hW
  refine (H29.out W0 hB0).mono ?_
  rintro e w1 ⟨_, rfl, ⟨u, rfl, hr⟩, hb1⟩
  obtain ⟨hsz, q0, q1, q2, q3, q4, r0, r1, r2, r3, r4⟩ := HZ0.out.below hb1
  have hB1 : Below w.heap.size w w1 := keepS hb1 hB0
  have HR := Lib.hid hr
  clear hb1 hr
  go_wp2_with fail
  (refine bodyPost_ret (v := .agg #[.int .i64 u.k, .int .i64 u.n, .int .i64 u.d, .string u.t, .slice none 0 0]) ?_ rfl ?_; (focus (first | (simp [results, Tryz.results17, go_sem, hc1, hz1]; done) | (simp [results, Tryz.results17, go_sem]; done) | (simp [results, Tryz.results17, go_sem, *]; done))); exact retV_mk _ ⟨u, rfl, HR.out⟩ (by repeat (first | (with_reducible exact Below.refl _ _) | (with_reducible assumption) | ((with_reducible refine Below.alloc ?_ ?_ _); rotate_left; focus (first | exact Nat.le_refl _ | omega | (simp; done) | (simp; omega))) | ((with_reducible refine Below.setCell ?_ ?_ _); rotate_left; focus (first | exact Nat.le_refl _ | omega | (simp; done) | (simp; omega))) | (with_reducible refine Below.drew ?_) | (with_reducible refine below_drewN ?_ _) | ((with_reducible refine below_via (by assumption) ?_ ?_); focus (first | exact Nat.le_refl _ | omega | (simp; done) | (simp; omega))))))
end Go.Proofs.YtpahhejkpdkjmaaGreatDoor
