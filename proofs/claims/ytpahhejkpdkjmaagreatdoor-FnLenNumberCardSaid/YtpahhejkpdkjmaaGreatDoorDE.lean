/- The reference's answer for EXACT. -/
import Derived.Test.YtpahhejkpdkjmaaGreatDoorD0
import Derived.Test.YtpahhejkpdkjmaaGreatDoorB9
import Derived.Test.YtpahhejkpdkjmaaGreatDoorCE
set_option linter.unusedSimpArgs false
set_option linter.unusedVariables false
namespace Go.Proofs.YtpahhejkpdkjmaaGreatDoor
open Go.RowKit
attribute [local go_sem] run_store_float
set_option maxRecDepth 100000 in
set_option maxHeartbeats 1000000 in
theorem c40g (name : ByteArray) (A : Option Addr) (n c : Nat) (w : World) (F : Bool → Prop)
    (h62 : ∀ W, Below w.heap.size w W → Calls Tryz.prog 62 #[.string name, .slice A n c] W (Ret W (.tuple #[.bool false, .bool false])))
    (h63 : ∀ W, Below w.heap.size w W → Calls Tryz.prog 63 #[.string name, .slice A n c] W (RetV W fun r => ∃ b, r = .tuple #[.bool b, .bool true] ∧ F b)) :
    Calls Tryz.prog 40 #[.string name, .slice A n c] w (RetB w F) := by
  have H62 := Lib.hid h62
  have H63 := Lib.hid h63
  clear h62 h63
  go_enter Tryz.func40, Tryz.ntmps40
  go_wp2_with (first
    | (go_at_call 62; refine (H62.out _ (Below.refl _ _)).mono ?_; rintro e w1 ⟨rfl, hb1⟩)
    | (go_at_call 63; refine (H63.out _ hb1).mono ?_; rintro e w2 ⟨_, rfl, ⟨b, rfl, hf⟩, hb2⟩; have HF := Lib.hid hf; clear hf))
  go_ret
  exact retB_mk _ HF.out (keepS hb2 hb1)
set_option maxRecDepth 100000 in
set_option maxHeartbeats 1000000 in
theorem c63E (xs : List V) (A : Option Addr) (c : Nat) (w : World) (hl : xs.length = 2) (hx : VRow w A xs) (hN : ∀ v, v ∈ xs → ∀ w', Calls Tryz.prog 148 #[.agg #[.int .i64 v.k, .int .i64 v.n, .int .i64 v.d, .string v.t, .slice none 0 0]] w' (RetB w' fun _ => True)) :
    Calls Tryz.prog 63 #[.string ⟨#[69, 88, 65, 67, 84]⟩, .slice A 2 c] w (RetV w fun r => ∃ b, r = .tuple #[.bool b, .bool true] ∧ True) := by
  have hc := c143 148 (fun _ _ => True) xs A c w (by omega) hx enters148 hN
  rw [hl] at hc
  have HC := Lib.hid hc
  clear hN hc
  go_enter Tryz.func63, Tryz.ntmps63
  go_wp2_with (go_at_call 143; refine HC.out.mono ?_; rintro e w1 ⟨b, rfl, _, hb1⟩)
  (refine bodyPost_ret (v := .tuple #[.bool b, .bool true]) ?_ rfl ?_; (focus (first | (simp [results, Tryz.results63, go_sem, hc1, hz1]; done) | (simp [results, Tryz.results63, go_sem]; done) | (simp [results, Tryz.results63, go_sem, *]; done))); exact retV_mk _ ⟨b, rfl, trivial⟩ hb1)
set_option maxRecDepth 100000 in
set_option maxHeartbeats 1000000 in
theorem c45E (s t : ByteArray) (A : Option Addr) (c : Nat) (w : World) (hs : s.size ≤ 9223372036854775807) (ht : t.size ≤ 9223372036854775807) (hx : VRow w A [⟨2, 0, 0, s⟩, ⟨2, 0, 0, t⟩]) :
    Calls Tryz.prog 45 #[.string ⟨#[69, 88, 65, 67, 84]⟩, .slice A 2 c] w (RetV w (TwoR fun u => u = VD ∨ (u.k = 3 ∧ u.n = b01 (s.toList == t.toList) ∧ u.t = ⟨#[]⟩))) := by
  go_enter Tryz.func45, Tryz.ntmps45
  go_wp2_with fail
  have HZ0 := Lib.hid (zcell_new w)
  generalize hW : World.alloc w _ = W0 at HZ0 ⊢
  have hB0 : Below w.heap.size w W0 := by rw [← hW]; exact (by repeat (first | (with_reducible exact Below.refl _ _) | (with_reducible assumption) | ((with_reducible refine Below.alloc ?_ ?_ _); rotate_left; focus (first | exact Nat.le_refl _ | omega | (simp; done) | (simp; omega))) | ((with_reducible refine Below.setCell ?_ ?_ _); rotate_left; focus (first | exact Nat.le_refl _ | omega | (simp; done) | (simp; omega))) | (with_reducible refine Below.drew ?_) | (with_reducible refine below_drewN ?_ _) | ((with_reducible refine below_via (by assumption) ?_ ?_); focus (first | exact Nat.le_refl _ | omega | (simp; done) | (simp; omega)))))
  clear hW
  refine (c114 s t A c W0 hs ht (hx.below hB0)).mono ?_
  rintro e w1 ⟨_, rfl, ⟨u, rfl, hr⟩, hb1⟩
  obtain ⟨hsz, q0, q1, q2, q3, q4, r0, r1, r2, r3, r4⟩ := HZ0.out.below hb1
  have hB1 : Below w.heap.size w w1 := keepS hb1 hB0
  have HR := Lib.hid hr
  clear hb1 hr hx
  go_wp2_with fail
  (refine bodyPost_ret (v := .tuple #[.agg #[.int .i64 u.k, .int .i64 u.n, .int .i64 u.d, .string u.t, .slice none 0 0], .bool true]) ?_ rfl ?_; (focus (first | (simp [results, Tryz.results45, go_sem, hc1, hz1]; done) | (simp [results, Tryz.results45, go_sem]; done) | (simp [results, Tryz.results45, go_sem, *]; done))); exact retV_mk _ ⟨u, rfl, HR.out⟩ (by repeat (first | (with_reducible exact Below.refl _ _) | (with_reducible assumption) | ((with_reducible refine Below.alloc ?_ ?_ _); rotate_left; focus (first | exact Nat.le_refl _ | omega | (simp; done) | (simp; omega))) | ((with_reducible refine Below.setCell ?_ ?_ _); rotate_left; focus (first | exact Nat.le_refl _ | omega | (simp; done) | (simp; omega))) | (with_reducible refine Below.drew ?_) | (with_reducible refine below_drewN ?_ _) | ((with_reducible refine below_via (by assumption) ?_ ?_); focus (first | exact Nat.le_refl _ | omega | (simp; done) | (simp; omega))))))
theorem c17E (s t : ByteArray) (A : Option Addr) (c : Nat) (w : World) (hs : s.size ≤ 9223372036854775807) (ht : t.size ≤ 9223372036854775807) (hx : VRow w A [⟨2, 0, 0, s⟩, ⟨2, 0, 0, t⟩]) :
    Calls Tryz.prog 17 #[.string ⟨#[69, 88, 65, 67, 84]⟩, .slice A 2 c] w (RetV w (VR fun u => u = VD ∨ (u.k = 3 ∧ u.n = b01 (s.toList == t.toList) ∧ u.t = ⟨#[]⟩))) := by
  refine c17g _ A 2 c w _ fun W hW => ?_
  refine ((c29g _ A 2 c W (fun _ => True) (fun u => u = VD ∨ (u.k = 3 ∧ u.n = b01 (s.toList == t.toList) ∧ u.t = ⟨#[]⟩)) (fun W1 hW1 => ?_) (fun W1 => c41E _ W1) (fun W1 => c42E _ W1) (fun W1 => c43E _ W1) (fun W1 => c44E _ W1) (fun W1 hW1 _ => c45E s t A c W1 hs ht ((hx.below hW).below hW1))).mono ?_)
  · refine c40g _ A 2 c W1 (fun _ => True) (fun W2 hW2 => c62E [⟨2, 0, 0, s⟩, ⟨2, 0, 0, t⟩] A c W2 (by simp) (((hx.below hW).below hW1).below hW2) ?_) (fun W2 hW2 => c63E [⟨2, 0, 0, s⟩, ⟨2, 0, 0, t⟩] A c W2 rfl (((hx.below hW).below hW1).below hW2) ?_)
    · intro v hv w'
      simp only [List.mem_cons, List.not_mem_nil, or_false] at hv
      rcases hv with rfl | rfl
      · exact c144_text 0 0 s w' hs
      · exact c144_text 0 0 t w' ht
    · intro v hv w'
      simp only [List.mem_cons, List.not_mem_nil, or_false] at hv
      rcases hv with rfl | rfl
      · exact (c148 2 0 0 s w' hs).mono fun _ _ ⟨b, e, _, h⟩ => ⟨b, e, trivial, h⟩
      · exact (c148 2 0 0 t w' ht).mono fun _ _ ⟨b, e, _, h⟩ => ⟨b, e, trivial, h⟩
  · rintro e w' ⟨r, he, ⟨u, hr, hu⟩, hb⟩
    exact ⟨r, he, ⟨u, hr, hu.elim .inl id⟩, hb⟩
end Go.Proofs.YtpahhejkpdkjmaaGreatDoor
