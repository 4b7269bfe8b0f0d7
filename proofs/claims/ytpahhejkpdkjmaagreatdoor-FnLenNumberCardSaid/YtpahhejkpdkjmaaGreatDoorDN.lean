/- The reference's answer for LEN of a number. -/
import Derived.Test.YtpahhejkpdkjmaaGreatDoorDE
import Derived.Test.YtpahhejkpdkjmaaGreatDoorCL
import Derived.Test.YtpahhejkpdkjmaaGreatDoorLP
import Derived.Test.YtpahhejkpdkjmaaGreatDoorDC
set_option linter.unusedSimpArgs false
set_option linter.unusedVariables false
namespace Go.Proofs.YtpahhejkpdkjmaaGreatDoor
open Go.RowKit
attribute [local go_sem] run_store_float
set_option maxRecDepth 100000 in
set_option maxHeartbeats 1000000 in
theorem c149_num (n : Int) (w : World) (h0 : -1000000 < n) (h1 : n < 1000000) : Calls Tryz.prog 149 #[.agg #[.int .i64 1, .int .i64 n, .int .i64 1, .string ⟨#[]⟩, .slice none 0 0]] w (RetV w (AsV (fun v => plainS v.n) ⟨1, n, 1, ⟨#[]⟩⟩)) := by
  have H223 := Lib.hid (fun W => c223 n ⟨#[]⟩ W (by omega) (by omega))
  have HP : Hid (∃ s, s = plainS n) := Lib.hid ⟨_, rfl⟩
  obtain ⟨s, hs⟩ := HP.out
  rw [← hs] at H223
  have HS := Lib.hid hs
  clear hs HP
  go_enter Tryz.func149, Tryz.ntmps149
  go_wp2_with fail
  refine (H223.out _).mono ?_
  rintro e w1 ⟨rfl, hb1⟩
  obtain ⟨hc1, hf1, hz1⟩ := bcell hb1
  have hs1 : w.heap.size < w1.heap.size := hz1 _ (by simp; omega)
  have hs2 : w.heap.size + 1 < w1.heap.size := hz1 _ (by simp)
  have hbw1 : Below w.heap.size w w1 := (by repeat (first | (with_reducible exact Below.refl _ _) | (with_reducible assumption) | ((with_reducible refine Below.alloc ?_ ?_ _); rotate_left; focus (first | exact Nat.le_refl _ | omega | (simp; done) | (simp; omega))) | ((with_reducible refine Below.setCell ?_ ?_ _); rotate_left; focus (first | exact Nat.le_refl _ | omega | (simp; done) | (simp; omega))) | (with_reducible refine Below.drew ?_) | (with_reducible refine below_drewN ?_ _) | ((with_reducible refine below_via (by assumption) ?_ ?_); focus (first | exact Nat.le_refl _ | omega | (simp; done) | (simp; omega)))))
  clear hb1
  go_wp2_with fail
  refine (c10 s _).mono ?_
  rintro e w2 ⟨rfl, hb2⟩
  obtain ⟨hc2, hf2, hz2⟩ := bcell hb2
  have hs3 : w.heap.size < w2.heap.size := hz2 _ hs1
  have hs4 : w.heap.size + 1 < w2.heap.size := hz2 _ hs2
  have hbw2 : Below w.heap.size w w2 := keepS hb2 hbw1
  clear hb2 H223
  go_wp2_with fail
  (refine bodyPost_ret (v := .agg #[.int .i64 2, .int .i64 0, .int .i64 0, .string s, .slice none 0 0]) ?_ rfl ?_; (focus (first | (simp [results, Tryz.results149, go_sem, hc1, hz1]; done) | (simp [results, Tryz.results149, go_sem]; done) | (simp [results, Tryz.results149, go_sem, *]; done))); exact retV_mk _ ⟨⟨2, 0, 0, s⟩, rfl, .inl ⟨rfl, HS.out⟩⟩ (by repeat (first | (with_reducible exact Below.refl _ _) | (with_reducible assumption) | ((with_reducible refine Below.alloc ?_ ?_ _); rotate_left; focus (first | exact Nat.le_refl _ | omega | (simp; done) | (simp; omega))) | ((with_reducible refine Below.setCell ?_ ?_ _); rotate_left; focus (first | exact Nat.le_refl _ | omega | (simp; done) | (simp; omega))) | (with_reducible refine Below.drew ?_) | (with_reducible refine below_drewN ?_ _) | ((with_reducible refine below_via (by assumption) ?_ ?_); focus (first | exact Nat.le_refl _ | omega | (simp; done) | (simp; omega))))))
/-- What LEN says of a text of n bytes. -/
def LenR (n : Nat) (u : V) : Prop := u = VD ∨ u = ⟨1, (n : Int), 1, ⟨#[]⟩⟩
set_option maxRecDepth 100000 in
set_option maxHeartbeats 4000000 in
theorem c109L (txt : V → ByteArray) (v : V) (A : Option Addr) (c : Nat) (w : World) (hx : VRow w A [v]) (hsz0 : (txt v).size ≤ 1000)
    (hT : ∀ w', Calls Tryz.prog 149 #[.agg #[.int .i64 v.k, .int .i64 v.n, .int .i64 v.d, .string v.t, .slice none 0 0]] w' (RetV w' (AsV txt v))) :
    Calls Tryz.prog 109 #[.string ⟨#[76, 69, 78]⟩, .slice A 1 c] w (RetV w (VR (LenR (txt v).size))) := by
  have H208 := Lib.hid (fun W (hW : Below w.heap.size w W) => c208 txt [v] A c W (by simp) (by simp) (hx.below hW) (by intro v' hv' w'; simp at hv'; rw [hv']; exact hT w'))
  clear hT hx
  obtain ⟨s, hs⟩ : ∃ s, s = txt v := ⟨_, rfl⟩
  rw [← hs] at hsz0 ⊢
  have HS := Lib.hid hs
  clear hs
  go_enter Tryz.func109, Tryz.ntmps109
  go_wp2_with fail
  have HZ0 := Lib.hid (zcell_new w)
  generalize hW : World.alloc w _ = W0 at HZ0 ⊢
  have hB0 : Below w.heap.size w W0 := by rw [← hW]; exact (by repeat (first | (with_reducible exact Below.refl _ _) | (with_reducible assumption) | ((with_reducible refine Below.alloc ?_ ?_ _); rotate_left; focus (first | exact Nat.le_refl _ | omega | (simp; done) | (simp; omega))) | ((with_reducible refine Below.setCell ?_ ?_ _); rotate_left; focus (first | exact Nat.le_refl _ | omega | (simp; done) | (simp; omega))) | (with_reducible refine Below.drew ?_) | (with_reducible refine below_drewN ?_ _) | ((with_reducible refine below_via (by assumption) ?_ ?_); focus (first | exact Nat.le_refl _ | omega | (simp; done) | (simp; omega)))))
  have hsW : W0.heap.size = w.heap.size + 1 := by rw [← hW]; simp
  clear hW
  refine (H208.out W0 hB0).mono ?_
  rintro e w1 ⟨hb1, hr⟩
  have hB1 : Below w.heap.size w w1 := keepS hb1 hB0
  have HZ1 := Lib.hid (HZ0.out.below hb1)
  have hs1 : w.heap.size < w1.heap.size := HZ1.out.lt
  clear hb1 HZ0
  rcases hr with ⟨A1, c1, u, rfl, hrow⟩ | rfl
  · rcases hrow with h | ⟨g, rfl, hg, hc⟩
    · cases h
    have t0 : w1.cell? ⟨g, 0, none⟩ = some (.string s) := by rw [HS.out]; exact hc 0 _ rfl 0 _ rfl
    clear hc
    obtain ⟨hsz, q0, q1, q2, q3, q4, r0, r1, r2, r3, r4⟩ := HZ1.out
    have hnn : (-99999999999 : Int) ≤ (s.size : Int) := by omega
    have hn1 : (s.size : Int) ≤ 99999999999 := by omega
    go_wp2_with (go_at_call 98; refine (c98 _ _ hnn hn1).mono ?_; rintro e w2 ⟨rfl, hb2⟩; have hb2' : Below w1.heap.size w1 w2 := (by repeat (first | (with_reducible exact Below.refl _ _) | (with_reducible assumption) | ((with_reducible refine Below.alloc ?_ ?_ _); rotate_left; focus (first | exact Nat.le_refl _ | omega | (simp; done) | (simp; omega))) | ((with_reducible refine Below.setCell ?_ ?_ _); rotate_left; focus (first | exact Nat.le_refl _ | omega | (simp; done) | (simp; omega))) | (with_reducible refine Below.drew ?_) | (with_reducible refine below_drewN ?_ _) | ((with_reducible refine below_via (by assumption) ?_ ?_); focus (first | exact Nat.le_refl _ | omega | (simp; done) | (simp; omega))))); obtain ⟨ksz, k0, k1, k2, k3, k4, l0, l1, l2, l3, l4⟩ := HZ1.out.below hb2'; have hB2 : Below w.heap.size w w2 := keepS hb2' hB1)
    (refine bodyPost_ret (v := .agg #[.int .i64 1, .int .i64 (s.size : Int), .int .i64 1, .string ⟨#[]⟩, .slice none 0 0]) ?_ rfl ?_; (focus (first | (simp [results, Tryz.results109, go_sem, hc1, hz1]; done) | (simp [results, Tryz.results109, go_sem]; done) | (simp [results, Tryz.results109, go_sem, *]; done))); exact retV_mk _ ⟨⟨1, (s.size : Int), 1, ⟨#[]⟩⟩, rfl, .inr rfl⟩ (by repeat (first | (with_reducible exact Below.refl _ _) | (with_reducible assumption) | ((with_reducible refine Below.alloc ?_ ?_ _); rotate_left; focus (first | exact Nat.le_refl _ | omega | (simp; done) | (simp; omega))) | ((with_reducible refine Below.setCell ?_ ?_ _); rotate_left; focus (first | exact Nat.le_refl _ | omega | (simp; done) | (simp; omega))) | (with_reducible refine Below.drew ?_) | (with_reducible refine below_drewN ?_ _) | ((with_reducible refine below_via (by assumption) ?_ ?_); focus (first | exact Nat.le_refl _ | omega | (simp; done) | (simp; omega))))))
  · obtain ⟨hsz, q0, q1, q2, q3, q4, r0, r1, r2, r3, r4⟩ := HZ1.out
    go_wp2_with fail
    (refine bodyPost_ret (v := .agg #[.int .i64 6, .int .i64 0, .int .i64 0, .string ⟨#[]⟩, .slice none 0 0]) ?_ rfl ?_; (focus (first | (simp [results, Tryz.results109, go_sem, hc1, hz1]; done) | (simp [results, Tryz.results109, go_sem]; done) | (simp [results, Tryz.results109, go_sem, *]; done))); exact retV_mk _ ⟨VD, rfl, .inl rfl⟩ (by repeat (first | (with_reducible exact Below.refl _ _) | (with_reducible assumption) | ((with_reducible refine Below.alloc ?_ ?_ _); rotate_left; focus (first | exact Nat.le_refl _ | omega | (simp; done) | (simp; omega))) | ((with_reducible refine Below.setCell ?_ ?_ _); rotate_left; focus (first | exact Nat.le_refl _ | omega | (simp; done) | (simp; omega))) | (with_reducible refine Below.drew ?_) | (with_reducible refine below_drewN ?_ _) | ((with_reducible refine below_via (by assumption) ?_ ?_); focus (first | exact Nat.le_refl _ | omega | (simp; done) | (simp; omega))))))
set_option maxRecDepth 100000 in
set_option maxHeartbeats 1000000 in
theorem c63L (v : V) (A : Option Addr) (c : Nat) (w : World) (F : Bool → Prop) (hx : VRow w A [v]) (hN : ∀ w', Calls Tryz.prog 148 #[.agg #[.int .i64 v.k, .int .i64 v.n, .int .i64 v.d, .string v.t, .slice none 0 0]] w' (RetB w' F)) (hF : F false) :
    Calls Tryz.prog 63 #[.string ⟨#[76, 69, 78]⟩, .slice A 1 c] w (RetV w fun r => ∃ b, r = .tuple #[.bool b, .bool true] ∧ F b) := by
  rcases hx with h | ⟨g, rfl, hg, hc⟩
  · cases h
  obtain ⟨h0, h1, h2, h3, h4⟩ := hc 0 v rfl
  have HN := Lib.hid hN
  clear hN hc
  go_enter Tryz.func63, Tryz.ntmps63
  go_wp2_with fail
  refine (HN.out _).mono ?_
  rintro e w1 ⟨b, rfl, hf, hb1⟩
  have HF := Lib.hid hf
  clear hf h0 h1 h2 h3 h4
  cases b
  · go_wp2_with fail
    (refine bodyPost_ret (v := .tuple #[.bool false, .bool true]) ?_ rfl ?_; (focus (first | (simp [results, Tryz.results63, go_sem, hc1, hz1]; done) | (simp [results, Tryz.results63, go_sem]; done) | (simp [results, Tryz.results63, go_sem, *]; done))); exact retV_mk _ ⟨_, rfl, HF.out⟩ hb1)
  · go_wp2_with fail
    (refine bodyPost_ret (v := .tuple #[.bool true, .bool true]) ?_ rfl ?_; (focus (first | (simp [results, Tryz.results63, go_sem, hc1, hz1]; done) | (simp [results, Tryz.results63, go_sem]; done) | (simp [results, Tryz.results63, go_sem, *]; done))); exact retV_mk _ ⟨_, rfl, HF.out⟩ hb1)
set_option maxRecDepth 100000 in
set_option maxHeartbeats 1000000 in
theorem c45L (txt : V → ByteArray) (v : V) (A : Option Addr) (c : Nat) (w : World) (hx : VRow w A [v]) (hsz : (txt v).size ≤ 1000)
    (hT : ∀ w', Calls Tryz.prog 149 #[.agg #[.int .i64 v.k, .int .i64 v.n, .int .i64 v.d, .string v.t, .slice none 0 0]] w' (RetV w' (AsV txt v))) :
    Calls Tryz.prog 45 #[.string ⟨#[76, 69, 78]⟩, .slice A 1 c] w (RetV w (TwoR (LenR (txt v).size))) := by
  go_enter Tryz.func45, Tryz.ntmps45
  go_wp2_with fail
  have HZ0 := Lib.hid (zcell_new w)
  generalize hW : World.alloc w _ = W0 at HZ0 ⊢
  have hB0 : Below w.heap.size w W0 := by rw [← hW]; exact (by repeat (first | (with_reducible exact Below.refl _ _) | (with_reducible assumption) | ((with_reducible refine Below.alloc ?_ ?_ _); rotate_left; focus (first | exact Nat.le_refl _ | omega | (simp; done) | (simp; omega))) | ((with_reducible refine Below.setCell ?_ ?_ _); rotate_left; focus (first | exact Nat.le_refl _ | omega | (simp; done) | (simp; omega))) | (with_reducible refine Below.drew ?_) | (with_reducible refine below_drewN ?_ _) | ((with_reducible refine below_via (by assumption) ?_ ?_); focus (first | exact Nat.le_refl _ | omega | (simp; done) | (simp; omega)))))
  clear hW
  refine (c109L txt v A c W0 (hx.below hB0) hsz hT).mono ?_
  rintro e w1 ⟨_, rfl, ⟨u, rfl, hr⟩, hb1⟩
  obtain ⟨hsz, q0, q1, q2, q3, q4, r0, r1, r2, r3, r4⟩ := HZ0.out.below hb1
  have hB1 : Below w.heap.size w w1 := keepS hb1 hB0
  have HR := Lib.hid hr
  clear hb1 hr hx hT
  go_wp2_with fail
  (refine bodyPost_ret (v := .tuple #[.agg #[.int .i64 u.k, .int .i64 u.n, .int .i64 u.d, .string u.t, .slice none 0 0], .bool true]) ?_ rfl ?_; (focus (first | (simp [results, Tryz.results45, go_sem, hc1, hz1]; done) | (simp [results, Tryz.results45, go_sem]; done) | (simp [results, Tryz.results45, go_sem, *]; done))); exact retV_mk _ ⟨u, rfl, HR.out⟩ (by repeat (first | (with_reducible exact Below.refl _ _) | (with_reducible assumption) | ((with_reducible refine Below.alloc ?_ ?_ _); rotate_left; focus (first | exact Nat.le_refl _ | omega | (simp; done) | (simp; omega))) | ((with_reducible refine Below.setCell ?_ ?_ _); rotate_left; focus (first | exact Nat.le_refl _ | omega | (simp; done) | (simp; omega))) | (with_reducible refine Below.drew ?_) | (with_reducible refine below_drewN ?_ _) | ((with_reducible refine below_via (by assumption) ?_ ?_); focus (first | exact Nat.le_refl _ | omega | (simp; done) | (simp; omega))))))
/-- v is a whole number of at most six digits. -/
def WS (v : V) : Prop := v.k = 1 ∧ v.d = 1 ∧ v.t = ⟨#[]⟩ ∧ -1000000 < v.n ∧ v.n < 1000000
theorem c17L (v : V) (A : Option Addr) (c : Nat) (w : World) (hk : v.k = 1 ∨ v.k = 6) (ht : v.t = ⟨#[]⟩) (hx : VRow w A [v]) :
    Calls Tryz.prog 17 #[.string ⟨#[76, 69, 78]⟩, .slice A 1 c] w (RetV w (VR (fun u => u = VD ∨ (WS v ∧ LenR (plainS v.n).size u)))) := by
  have hts : v.t.size ≤ 9223372036854775807 := by rw [ht]; decide
  have hN : ∀ w', Calls Tryz.prog 148 #[.agg #[.int .i64 v.k, .int .i64 v.n, .int .i64 v.d, .string v.t, .slice none 0 0]] w' (RetB w' fun b => b = true → WS v) := fun w' =>
    (c148 v.k v.n v.d v.t w' hts).mono fun e w2 ⟨b, he, h, hb⟩ => ⟨b, he, fun hbt => by
      rcases h hbt with h2 | h2 | ⟨h1, h2, h3, h4⟩
      · omega
      · omega
      · exact ⟨h1, h2, ht, h3, h4⟩, hb⟩
  refine c17g _ A 1 c w _ fun W hW => ?_
  refine ((c29g _ A 1 c W (fun b => b = true → WS v) (fun u => WS v ∧ LenR (plainS v.n).size u) (fun W1 hW1 => ?_) (fun W1 => c41L _ W1) (fun W1 => c42L _ W1) (fun W1 => c43L _ W1) (fun W1 => c44L _ W1) (fun W1 hW1 hF => ?_)).mono ?_)
  · refine c40g _ A 1 c W1 (fun b => b = true → WS v) (fun W2 hW2 => c62L [v] A c W2 (by simp) (((hx.below hW).below hW1).below hW2) ?_) (fun W2 hW2 => c63L v A c W2 (fun b => b = true → WS v) (((hx.below hW).below hW1).below hW2) hN (fun h => (nomatch h)))
    intro u hu w'
    simp only [List.mem_cons, List.not_mem_nil, or_false] at hu
    subst hu
    exact (c144_other u.k u.n u.d u.t w' (by omega)).mono fun _ _ ⟨b, e, _, h⟩ => ⟨b, e, trivial, h⟩
  · obtain ⟨h1, h2, h3, h4, h5⟩ := hF rfl
    have hT : ∀ w', Calls Tryz.prog 149 #[.agg #[.int .i64 v.k, .int .i64 v.n, .int .i64 v.d, .string v.t, .slice none 0 0]] w' (RetV w' (AsV (fun v => plainS v.n) v)) := fun w' => by
      have h := c149_num v.n w' h4 h5
      obtain ⟨vk, vn, vd, vt⟩ := v
      dsimp only at h1 h2 h3 h ⊢
      subst h1 h2 h3
      exact h
    have hsz : (plainS v.n).size ≤ 1000 := by
      rw [plainS_size]
      have := nDigits_le6 v.n.natAbs (by omega)
      split <;> omega
    exact (c45L (fun v => plainS v.n) v A c W1 ((hx.below hW).below hW1) hsz hT).mono fun e w' ⟨r, he, ⟨u, hr, hu⟩, hb⟩ => ⟨r, he, ⟨u, hr, ⟨h1, h2, h3, h4, h5⟩, hu⟩, hb⟩
  · rintro e w' ⟨r, he, ⟨u, hr, hu⟩, hb⟩
    exact ⟨r, he, ⟨u, hr, hu.elim .inl .inr⟩, hb⟩
end Go.Proofs.YtpahhejkpdkjmaaGreatDoor
