/- The reference's answer for CONCATENATE. -/
import Derived.Test.YtpahhejkpdkjmaaGreatDoorDE
import Derived.Test.YtpahhejkpdkjmaaGreatDoorCJ
set_option linter.unusedSimpArgs false
set_option linter.unusedVariables false
namespace Go.Proofs.YtpahhejkpdkjmaaGreatDoor
open Go.RowKit
attribute [local go_sem] run_store_float
/-- The texts, one behind the other. -/
def cat (ss : List ByteArray) : ByteArray := ss.foldl (· ++ ·) ⟨#[]⟩
theorem cat_nil : cat [] = ⟨#[]⟩ := rfl
theorem cat_snoc (ss : List ByteArray) (s : ByteArray) : cat (ss ++ [s]) = cat ss ++ s := by unfold cat; rw [List.foldl_append]; rfl
theorem cat_take {ss : List ByteArray} {k : Nat} {s : ByteArray} (h : ss[k]? = some s) : cat (ss.take (k + 1)) = cat (ss.take k) ++ s := by rw [take_succ_of h, cat_snoc]
theorem cat_size (ss : List ByteArray) (h : ∀ s, s ∈ ss → s.size ≤ 1000) : ∀ k, k ≤ ss.length → (cat (ss.take k)).size ≤ 1000 * k
  | 0, _ => by simp [cat, ByteArray.size]
  | k + 1, hk => by
    obtain ⟨s, hs⟩ : ∃ s, ss[k]? = some s := ⟨_, List.getElem?_eq_getElem (by omega)⟩
    rw [cat_take hs, ByteArray.size_append]
    have := cat_size ss h k (by omega)
    have := h s (List.mem_of_getElem? hs)
    omega
def vS (s : ByteArray) : V := ⟨2, 0, 0, s⟩
/-- What CONCATENATE says of the texts ss. -/
def CatR (ss : List ByteArray) (u : V) : Prop := u = VD ∨ u = ⟨2, 0, 0, cat ss⟩
set_option maxRecDepth 100000 in
set_option maxHeartbeats 1000000 in
theorem c152 (s : ByteArray) (w : World) (hs : s.size ≤ 9223372036854775807) : Calls Tryz.prog 152 #[.agg #[.int .i64 2, .int .i64 0, .int .i64 0, .string s, .slice none 0 0]] w (RetB w fun _ => True) := by
  have HN := Lib.hid (fun W => c148 2 0 0 s W hs)
  clear hs
  go_enter Tryz.func152, Tryz.ntmps152
  go_wp2_with fail
  refine (HN.out _).mono ?_
  rintro e w1 ⟨b, rfl, _, hb1⟩
  obtain ⟨hc1, hf1, hz1⟩ := bcell hb1
  have hs1 : w.heap.size < w1.heap.size := hz1 _ (by simp)
  have hbw : Below w.heap.size w w1 := (by repeat (first | (with_reducible exact Below.refl _ _) | (with_reducible assumption) | ((with_reducible refine Below.alloc ?_ ?_ _); rotate_left; focus (first | exact Nat.le_refl _ | omega | (simp; done) | (simp; omega))) | ((with_reducible refine Below.setCell ?_ ?_ _); rotate_left; focus (first | exact Nat.le_refl _ | omega | (simp; done) | (simp; omega))) | (with_reducible refine Below.drew ?_) | (with_reducible refine below_drewN ?_ _) | ((with_reducible refine below_via (by assumption) ?_ ?_); focus (first | exact Nat.le_refl _ | omega | (simp; done) | (simp; omega)))))
  cases b
  · go_wp2_with fail
    go_ret
    exact retB_mk _ trivial (by repeat (first | (with_reducible exact Below.refl _ _) | (with_reducible assumption) | ((with_reducible refine Below.alloc ?_ ?_ _); rotate_left; focus (first | exact Nat.le_refl _ | omega | (simp; done) | (simp; omega))) | ((with_reducible refine Below.setCell ?_ ?_ _); rotate_left; focus (first | exact Nat.le_refl _ | omega | (simp; done) | (simp; omega))) | (with_reducible refine Below.drew ?_) | (with_reducible refine below_drewN ?_ _) | ((with_reducible refine below_via (by assumption) ?_ ?_); focus (first | exact Nat.le_refl _ | omega | (simp; done) | (simp; omega)))))
  · go_wp2_with fail
    go_ret
    exact retB_mk _ trivial (by repeat (first | (with_reducible exact Below.refl _ _) | (with_reducible assumption) | ((with_reducible refine Below.alloc ?_ ?_ _); rotate_left; focus (first | exact Nat.le_refl _ | omega | (simp; done) | (simp; omega))) | ((with_reducible refine Below.setCell ?_ ?_ _); rotate_left; focus (first | exact Nat.le_refl _ | omega | (simp; done) | (simp; omega))) | (with_reducible refine Below.drew ?_) | (with_reducible refine below_drewN ?_ _) | ((with_reducible refine below_via (by assumption) ?_ ?_); focus (first | exact Nat.le_refl _ | omega | (simp; done) | (simp; omega)))))
theorem enters152 (args : Array Value) (W : World) : (callFunc 152 args).run Tryz.prog W = .ok (.enter 152 args) W := by simp [go_sem]
set_option maxRecDepth 100000 in
set_option maxHeartbeats 1000000 in
theorem c63J (ss : List ByteArray) (A : Option Addr) (c : Nat) (w : World) (hl : ss.length ≤ 20) (hx : VRow w A (ss.map vS)) (hs : ∀ s, s ∈ ss → s.size ≤ 1000) :
    Calls Tryz.prog 63 #[.string ⟨#[67, 79, 78, 67, 65, 84, 69, 78, 65, 84, 69]⟩, .slice A ss.length c] w (RetV w fun r => ∃ b, r = .tuple #[.bool b, .bool true] ∧ (b = true → 0 < ss.length)) := by
  have hN : ∀ v, v ∈ ss.map vS → ∀ w', Calls Tryz.prog 152 #[.agg #[.int .i64 v.k, .int .i64 v.n, .int .i64 v.d, .string v.t, .slice none 0 0]] w' (RetB w' fun _ => True) := by
    intro v hv w'
    obtain ⟨s, hm, rfl⟩ := List.mem_map.1 hv
    exact c152 s w' (by have := hs s hm; omega)
  have hc := c143 152 (fun _ _ => True) (ss.map vS) A c w (by rw [List.length_map]; omega) hx enters152 hN
  rw [List.length_map] at hc
  have HC := Lib.hid hc
  clear hN hc hx hs
  obtain ⟨n, hn⟩ : ∃ n, n = ss.length := ⟨_, rfl⟩
  rw [← hn] at HC hl ⊢
  clear hn
  by_cases h0 : 0 < n
  · go_enter Tryz.func63, Tryz.ntmps63
    go_wp2_with (go_at_call 143; refine HC.out.mono ?_; rintro e w1 ⟨b, rfl, _, hb1⟩)
    (refine bodyPost_ret (v := .tuple #[.bool b, .bool true]) ?_ rfl ?_; (focus (first | (simp [results, Tryz.results63, go_sem, hc1, hz1]; done) | (simp [results, Tryz.results63, go_sem]; done) | (simp [results, Tryz.results63, go_sem, *]; done))); exact retV_mk _ ⟨b, rfl, fun _ => h0⟩ hb1)
  · obtain rfl : n = 0 := by omega
    go_enter Tryz.func63, Tryz.ntmps63
    go_wp2_with fail
    (refine bodyPost_ret (v := .tuple #[.bool false, .bool true]) ?_ rfl ?_; (focus (first | (simp [results, Tryz.results63, go_sem, hc1, hz1]; done) | (simp [results, Tryz.results63, go_sem]; done) | (simp [results, Tryz.results63, go_sem, *]; done))); exact retV_mk _ ⟨false, rfl, fun h => (nomatch h)⟩ (Below.refl _ _))
end Go.Proofs.YtpahhejkpdkjmaaGreatDoor
