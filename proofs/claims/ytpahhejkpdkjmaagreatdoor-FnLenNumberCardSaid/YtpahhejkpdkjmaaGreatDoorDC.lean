/- The reference's answer for CODE. -/
import Derived.Test.YtpahhejkpdkjmaaGreatDoorDE
import Derived.Test.YtpahhejkpdkjmaaGreatDoorCC
set_option linter.unusedSimpArgs false
set_option linter.unusedVariables false
namespace Go.Proofs.YtpahhejkpdkjmaaGreatDoor
open Go.RowKit
attribute [local go_sem] run_store_float
set_option maxRecDepth 100000 in
set_option maxHeartbeats 1000000 in
theorem c98 (n : Int) (w : World) (h0 : -99999999999 ≤ n) (h1 : n ≤ 99999999999) : Calls Tryz.prog 98 #[.int .i64 n] w (Ret w (.agg #[.int .i64 1, .int .i64 n, .int .i64 1, .string ⟨#[]⟩, .slice none 0 0])) := by
  go_enter Tryz.func98, Tryz.ntmps98
  go_wp2_with fail
  exact bodyPost_ret (v := .agg #[.int .i64 1, .int .i64 n, .int .i64 1, .string ⟨#[]⟩, .slice none 0 0]) (by first | (simp [results, Tryz.results98, go_sem, hc1, hz1]; done) | (simp [results, Tryz.results98, go_sem]; done) | (simp [results, Tryz.results98, go_sem, *]; done)) rfl (ret_mk (by repeat (first | (with_reducible exact Below.refl _ _) | (with_reducible assumption) | ((with_reducible refine Below.alloc ?_ ?_ _); rotate_left; focus (first | exact Nat.le_refl _ | omega | (simp; done) | (simp; omega))) | ((with_reducible refine Below.setCell ?_ ?_ _); rotate_left; focus (first | exact Nat.le_refl _ | omega | (simp; done) | (simp; omega))) | (with_reducible refine Below.drew ?_) | (with_reducible refine below_drewN ?_ _) | ((with_reducible refine below_via (by assumption) ?_ ?_); focus (first | exact Nat.le_refl _ | omega | (simp; done) | (simp; omega))))))
/-- What CODE says of the text s. -/
def CodeR (s : ByteArray) (u : V) : Prop := u = VD ∨ ∃ h : 0 < s.size, u = ⟨1, (s[0].toNat : Int), 1, ⟨#[]⟩⟩
set_option maxRecDepth 100000 in
set_option maxHeartbeats 4000000 in
theorem c109C (txt : V → ByteArray) (v : V) (A : Option Addr) (c : Nat) (w : World) (hx : VRow w A [v])
    (hT : ∀ w', Calls Tryz.prog 149 #[.agg #[.int .i64 v.k, .int .i64 v.n, .int .i64 v.d, .string v.t, .slice none 0 0]] w' (RetV w' (AsV txt v))) :
    Calls Tryz.prog 109 #[.string ⟨#[67, 79, 68, 69]⟩, .slice A 1 c] w (RetV w (VR (CodeR (txt v)))) := by
  have H208 := Lib.hid (fun W (hW : Below w.heap.size w W) => c208 txt [v] A c W (by simp) (by simp) (hx.below hW) (by intro v' hv' w'; simp at hv'; rw [hv']; exact hT w'))
  clear hT hx
  obtain ⟨s, hs⟩ : ∃ s, s = txt v := ⟨_, rfl⟩
  rw [← hs]
  have HS := Lib.hid hs
  clear hs
  go_enter Tryz.func109, Tryz.ntmps109
  go_wp2_with fail
  have HZ0 := Lib.hid (zcell_new w)
  generalize hW : World.alloc w _ = W0 at HZ0 ⊢
  have hB0 : Below w.heap.size w W0 := by rw [← hW]; exact (by repeat (first | (with_reducible exact Below.refl _ _) | (with_reducible assumption) | ((with_reducible refine Below.alloc ?_ ?_ _); rotate_left; focus (first | exact Nat.le_refl _ | omega | (simp; done) | (simp; omega))) | ((with_reducible refine Below.setCell ?_ ?_ _); rotate_left; focus (first | exact Nat.le_refl _ | omega | (simp; done) | (simp; omega))) | (with_reducible refine Below.drew ?_) | (with_reducible refine below_drewN ?_ _) | ((with_reducible refine below_via (by assumption) ?_ ?_); focus (first | exact Nat.le_refl _ | omega | (simp; done) | (simp; omega)))))
  have hsW : W0.heap.size = w.heap.size + 1 := by rw [← hW]; simp
  clear hW
  refine (H208.out W0 hB0).mono ?_
  rintro e w1 ⟨hb1, hr⟩
  have hB1 : Below w.heap.size w w1 := keepS hb1 hB0
  have HZ1 := Lib.hid (HZ0.out.below hb1)
  have hs1 : w.heap.size < w1.heap.size := HZ1.out.lt
  clear hb1 HZ0
  rcases hr with ⟨A1, c1, u, rfl, hrow⟩ | rfl
  · rcases hrow with h | ⟨g, rfl, hg, hc⟩
    · cases h
    have t0 : w1.cell? ⟨g, 0, none⟩ = some (.string s) := by rw [HS.out]; exact hc 0 _ rfl 0 _ rfl
    clear hc
    obtain ⟨hsz, q0, q1, q2, q3, q4, r0, r1, r2, r3, r4⟩ := HZ1.out
    by_cases hp : 0 < s.size
    · have hne : s.toList.isEmpty = false := by
        rw [ByteArray.toList_eq]
        cases hl : s.data.toList with
        | nil => have : s.size = 0 := by show s.data.size = 0; rw [← Array.length_toList, hl]; rfl
                 omega
        | cons _ _ => rfl
      have hw : wrap64 ((s[0].toNat : Int)) = (s[0].toNat : Int) := by have := s[0].toNat_lt; unfold wrap64; omega
      have h0n : -99999999999 ≤ (s[0].toNat : Int) := by omega
      have h1n : (s[0].toNat : Int) ≤ 99999999999 := by have := s[0].toNat_lt; omega
      go_wp2_with (go_at_call 98; refine (c98 _ _ h0n h1n).mono ?_; rintro e w2 ⟨rfl, hb2⟩; have hb2' : Below w1.heap.size w1 w2 := (by repeat (first | (with_reducible exact Below.refl _ _) | (with_reducible assumption) | ((with_reducible refine Below.alloc ?_ ?_ _); rotate_left; focus (first | exact Nat.le_refl _ | omega | (simp; done) | (simp; omega))) | ((with_reducible refine Below.setCell ?_ ?_ _); rotate_left; focus (first | exact Nat.le_refl _ | omega | (simp; done) | (simp; omega))) | (with_reducible refine Below.drew ?_) | (with_reducible refine below_drewN ?_ _) | ((with_reducible refine below_via (by assumption) ?_ ?_); focus (first | exact Nat.le_refl _ | omega | (simp; done) | (simp; omega))))); obtain ⟨ksz, k0, k1, k2, k3, k4, l0, l1, l2, l3, l4⟩ := HZ1.out.below hb2'; have hB2 : Below w.heap.size w w2 := keepS hb2' hB1)
      (refine bodyPost_ret (v := .agg #[.int .i64 1, .int .i64 (s[0].toNat : Int), .int .i64 1, .string ⟨#[]⟩, .slice none 0 0]) ?_ rfl ?_; (focus (first | (simp [results, Tryz.results109, go_sem, hc1, hz1]; done) | (simp [results, Tryz.results109, go_sem]; done) | (simp [results, Tryz.results109, go_sem, *]; done))); exact retV_mk _ ⟨⟨1, (s[0].toNat : Int), 1, ⟨#[]⟩⟩, rfl, .inr ⟨hp, rfl⟩⟩ (by repeat (first | (with_reducible exact Below.refl _ _) | (with_reducible assumption) | ((with_reducible refine Below.alloc ?_ ?_ _); rotate_left; focus (first | exact Nat.le_refl _ | omega | (simp; done) | (simp; omega))) | ((with_reducible refine Below.setCell ?_ ?_ _); rotate_left; focus (first | exact Nat.le_refl _ | omega | (simp; done) | (simp; omega))) | (with_reducible refine Below.drew ?_) | (with_reducible refine below_drewN ?_ _) | ((with_reducible refine below_via (by assumption) ?_ ?_); focus (first | exact Nat.le_refl _ | omega | (simp; done) | (simp; omega))))))
    · have he : s = ⟨#[]⟩ := by
        obtain ⟨a⟩ := s
        have : a.size = 0 := by have := hp; simp only [ByteArray.size] at this; omega
        rw [Array.eq_empty_of_size_eq_zero this]
      have hne : s.toList.isEmpty = true := by rw [he, ByteArray.toList_eq]; rfl
      go_wp2_with (go_at_call 38; refine (c38 _).mono ?_; rintro e w2 ⟨rfl, hb2⟩; have hb2' : Below w1.heap.size w1 w2 := (by repeat (first | (with_reducible exact Below.refl _ _) | (with_reducible assumption) | ((with_reducible refine Below.alloc ?_ ?_ _); rotate_left; focus (first | exact Nat.le_refl _ | omega | (simp; done) | (simp; omega))) | ((with_reducible refine Below.setCell ?_ ?_ _); rotate_left; focus (first | exact Nat.le_refl _ | omega | (simp; done) | (simp; omega))) | (with_reducible refine Below.drew ?_) | (with_reducible refine below_drewN ?_ _) | ((with_reducible refine below_via (by assumption) ?_ ?_); focus (first | exact Nat.le_refl _ | omega | (simp; done) | (simp; omega))))); obtain ⟨ksz, k0, k1, k2, k3, k4, l0, l1, l2, l3, l4⟩ := HZ1.out.below hb2'; have hB2 : Below w.heap.size w w2 := keepS hb2' hB1)
      (refine bodyPost_ret (v := .agg #[.int .i64 6, .int .i64 0, .int .i64 0, .string ⟨#[]⟩, .slice none 0 0]) ?_ rfl ?_; (focus (first | (simp [results, Tryz.results109, go_sem, hc1, hz1]; done) | (simp [results, Tryz.results109, go_sem]; done) | (simp [results, Tryz.results109, go_sem, *]; done))); exact retV_mk _ ⟨VD, rfl, .inl rfl⟩ (by repeat (first | (with_reducible exact Below.refl _ _) | (with_reducible assumption) | ((with_reducible refine Below.alloc ?_ ?_ _); rotate_left; focus (first | exact Nat.le_refl _ | omega | (simp; done) | (simp; omega))) | ((with_reducible refine Below.setCell ?_ ?_ _); rotate_left; focus (first | exact Nat.le_refl _ | omega | (simp; done) | (simp; omega))) | (with_reducible refine Below.drew ?_) | (with_reducible refine below_drewN ?_ _) | ((with_reducible refine below_via (by assumption) ?_ ?_); focus (first | exact Nat.le_refl _ | omega | (simp; done) | (simp; omega))))))
  · obtain ⟨hsz, q0, q1, q2, q3, q4, r0, r1, r2, r3, r4⟩ := HZ1.out
    go_wp2_with fail
    (refine bodyPost_ret (v := .agg #[.int .i64 6, .int .i64 0, .int .i64 0, .string ⟨#[]⟩, .slice none 0 0]) ?_ rfl ?_; (focus (first | (simp [results, Tryz.results109, go_sem, hc1, hz1]; done) | (simp [results, Tryz.results109, go_sem]; done) | (simp [results, Tryz.results109, go_sem, *]; done))); exact retV_mk _ ⟨VD, rfl, .inl rfl⟩ (by repeat (first | (with_reducible exact Below.refl _ _) | (with_reducible assumption) | ((with_reducible refine Below.alloc ?_ ?_ _); rotate_left; focus (first | exact Nat.le_refl _ | omega | (simp; done) | (simp; omega))) | ((with_reducible refine Below.setCell ?_ ?_ _); rotate_left; focus (first | exact Nat.le_refl _ | omega | (simp; done) | (simp; omega))) | (with_reducible refine Below.drew ?_) | (with_reducible refine below_drewN ?_ _) | ((with_reducible refine below_via (by assumption) ?_ ?_); focus (first | exact Nat.le_refl _ | omega | (simp; done) | (simp; omega))))))
theorem field27_3 (a b d : Int) (t : ByteArray) (w : World) : (Instr.field 27 (.agg #[.int .i64 a, .int .i64 b, .int .i64 d, .string t, .slice none 0 0]) 3).run Tryz.prog w = .ok (.string t) w := by kernel_rfl
attribute [local go_sem] field27_3
set_option maxRecDepth 100000 in
set_option maxHeartbeats 1000000 in
theorem c63C (v : V) (A : Option Addr) (c : Nat) (w : World) (hx : VRow w A [v]) (hN : ∀ w', Calls Tryz.prog 148 #[.agg #[.int .i64 v.k, .int .i64 v.n, .int .i64 v.d, .string v.t, .slice none 0 0]] w' (RetB w' fun _ => True))
    (txt : V → ByteArray) (hT : ∀ w', Calls Tryz.prog 149 #[.agg #[.int .i64 v.k, .int .i64 v.n, .int .i64 v.d, .string v.t, .slice none 0 0]] w' (RetV w' (AsV txt v))) :
    Calls Tryz.prog 63 #[.string ⟨#[67, 79, 68, 69]⟩, .slice A 1 c] w (RetV w fun r => ∃ b, r = .tuple #[.bool b, .bool true] ∧ True) := by
  rcases hx with h | ⟨g, rfl, hg, hc⟩
  · cases h
  have HC := Lib.hid (hc 0 v rfl)
  obtain ⟨h0, h1, h2, h3, h4⟩ := hc 0 v rfl
  have HN := Lib.hid hN
  have HT := Lib.hid hT
  clear hN hc hT
  go_enter Tryz.func63, Tryz.ntmps63
  go_wp2_with fail
  refine (HN.out _).mono ?_
  rintro e w1 ⟨b, rfl, _, hb1⟩
  obtain ⟨j0, j1, j2, j3, j4⟩ := HC.out.below hb1 hg
  clear h0 h1 h2 h3 h4
  cases b
  · go_wp2_with fail
    (refine bodyPost_ret (v := .tuple #[.bool false, .bool true]) ?_ rfl ?_; (focus (first | (simp [results, Tryz.results63, go_sem, hc1, hz1]; done) | (simp [results, Tryz.results63, go_sem]; done) | (simp [results, Tryz.results63, go_sem, *]; done))); exact retV_mk _ ⟨_, rfl, trivial⟩ hb1)
  · go_wp2_with fail
    refine (HT.out _).mono ?_
    rintro e w2 ⟨_, rfl, ⟨u, rfl, _⟩, hb2⟩
    go_wp2_with fail
    (refine bodyPost_ret (v := .tuple #[.bool (!u.t.toList.isEmpty), .bool true]) ?_ rfl ?_; (focus (first | (simp [results, Tryz.results63, go_sem, hc1, hz1]; done) | (simp [results, Tryz.results63, go_sem]; done) | (simp [results, Tryz.results63, go_sem, *]; done))); exact retV_mk _ ⟨_, rfl, trivial⟩ (keepS hb2 hb1))
set_option maxRecDepth 100000 in
set_option maxHeartbeats 1000000 in
theorem c45C (txt : V → ByteArray) (v : V) (A : Option Addr) (c : Nat) (w : World) (hx : VRow w A [v])
    (hT : ∀ w', Calls Tryz.prog 149 #[.agg #[.int .i64 v.k, .int .i64 v.n, .int .i64 v.d, .string v.t, .slice none 0 0]] w' (RetV w' (AsV txt v))) :
    Calls Tryz.prog 45 #[.string ⟨#[67, 79, 68, 69]⟩, .slice A 1 c] w (RetV w (TwoR (CodeR (txt v)))) := by
  go_enter Tryz.func45, Tryz.ntmps45
  go_wp2_with fail
  have HZ0 := Lib.hid (zcell_new w)
  generalize hW : World.alloc w _ = W0 at HZ0 ⊢
  have hB0 : Below w.heap.size w W0 := by rw [← hW]; exact (by repeat (first | (with_reducible exact Below.refl _ _) | (with_reducible assumption) | ((with_reducible refine Below.alloc ?_ ?_ _); rotate_left; focus (first | exact Nat.le_refl _ | omega | (simp; done) | (simp; omega))) | ((with_reducible refine Below.setCell ?_ ?_ _); rotate_left; focus (first | exact Nat.le_refl _ | omega | (simp; done) | (simp; omega))) | (with_reducible refine Below.drew ?_) | (with_reducible refine below_drewN ?_ _) | ((with_reducible refine below_via (by assumption) ?_ ?_); focus (first | exact Nat.le_refl _ | omega | (simp; done) | (simp; omega)))))
  clear hW
  refine (c109C txt v A c W0 (hx.below hB0) hT).mono ?_
  rintro e w1 ⟨_, rfl, ⟨u, rfl, hr⟩, hb1⟩
  obtain ⟨hsz, q0, q1, q2, q3, q4, r0, r1, r2, r3, r4⟩ := HZ0.out.below hb1
  have hB1 : Below w.heap.size w w1 := keepS hb1 hB0
  have HR := Lib.hid hr
  clear hb1 hr hx hT
  go_wp2_with fail
  (refine bodyPost_ret (v := .tuple #[.agg #[.int .i64 u.k, .int .i64 u.n, .int .i64 u.d, .string u.t, .slice none 0 0], .bool true]) ?_ rfl ?_; (focus (first | (simp [results, Tryz.results45, go_sem, hc1, hz1]; done) | (simp [results, Tryz.results45, go_sem]; done) | (simp [results, Tryz.results45, go_sem, *]; done))); exact retV_mk _ ⟨u, rfl, HR.out⟩ (by repeat (first | (with_reducible exact Below.refl _ _) | (with_reducible assumption) | ((with_reducible refine Below.alloc ?_ ?_ _); rotate_left; focus (first | exact Nat.le_refl _ | omega | (simp; done) | (simp; omega))) | ((with_reducible refine Below.setCell ?_ ?_ _); rotate_left; focus (first | exact Nat.le_refl _ | omega | (simp; done) | (simp; omega))) | (with_reducible refine Below.drew ?_) | (with_reducible refine below_drewN ?_ _) | ((with_reducible refine below_via (by assumption) ?_ ?_); focus (first | exact Nat.le_refl _ | omega | (simp; done) | (simp; omega))))))
theorem c17C (s : ByteArray) (A : Option Addr) (c : Nat) (w : World) (hs : s.size ≤ 9223372036854775807) (hx : VRow w A [⟨2, 0, 0, s⟩]) :
    Calls Tryz.prog 17 #[.string ⟨#[67, 79, 68, 69]⟩, .slice A 1 c] w (RetV w (VR (CodeR s))) := by
  have hT : ∀ w', Calls Tryz.prog 149 #[.agg #[.int .i64 2, .int .i64 0, .int .i64 0, .string s, .slice none 0 0]] w' (RetV w' (AsV V.t ⟨2, 0, 0, s⟩)) := fun w' =>
    (c149_text 0 0 s w' hs).mono fun _ _ ⟨r, e, ⟨u, hr, hu⟩, hb⟩ => ⟨r, e, ⟨u, hr, hu.imp (fun h => by rw [h]; exact ⟨rfl, rfl⟩) id⟩, hb⟩
  refine c17g _ A 1 c w _ fun W hW => ?_
  refine ((c29g _ A 1 c W (fun _ => True) (CodeR s) (fun W1 hW1 => ?_) (fun W1 => c41C _ W1) (fun W1 => c42C _ W1) (fun W1 => c43C _ W1) (fun W1 => c44C _ W1) (fun W1 hW1 _ => c45C V.t ⟨2, 0, 0, s⟩ A c W1 ((hx.below hW).below hW1) hT)).mono ?_)
  · refine c40g _ A 1 c W1 (fun _ => True) (fun W2 hW2 => c62C [⟨2, 0, 0, s⟩] A c W2 (by simp) (((hx.below hW).below hW1).below hW2) ?_) (fun W2 hW2 => c63C ⟨2, 0, 0, s⟩ A c W2 (((hx.below hW).below hW1).below hW2) (fun w' => (c148 2 0 0 s w' hs).mono fun _ _ ⟨b, e, _, h⟩ => ⟨b, e, trivial, h⟩) V.t hT)
    intro v hv w'
    simp only [List.mem_cons, List.not_mem_nil, or_false] at hv
    subst hv
    exact c144_text 0 0 s w' hs
  · rintro e w' ⟨r, he, ⟨u, hr, hu⟩, hb⟩
    exact ⟨r, he, ⟨u, hr, hu.elim .inl id⟩, hb⟩
end Go.Proofs.YtpahhejkpdkjmaaGreatDoor
