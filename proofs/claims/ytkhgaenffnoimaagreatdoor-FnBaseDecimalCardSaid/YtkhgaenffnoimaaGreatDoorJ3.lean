/- innerArg, innerList. -/
import Derived.Test.YtkhgaenffnoimaaGreatDoorJ2
set_option linter.unusedSimpArgs false
set_option linter.unusedVariables false
namespace Go.Proofs.YtkhgaenffnoimaaGreatDoor
open Go.RowKit
attribute [local go_sem] run_store_float
/-- A formula argument: a text; a number; a bool. -/
def fS (t : ByteArray) : Value := .agg #[.string ⟨#[]⟩, .float .f64 0, .string t, .slice none 0 0, .slice none 0 0, .bool false, .string ⟨#[]⟩, .int .u8 2, .pointer none, .pointer none]
def fB (b : Nat) : Value := .agg #[.string ⟨#[]⟩, .float .f64 b, .string ⟨#[]⟩, .slice none 0 0, .slice none 0 0, .bool true, .string ⟨#[]⟩, .int .u8 1, .pointer none, .pointer none]
def fN (b : Nat) : Value := .agg #[.string ⟨#[]⟩, .float .f64 b, .string ⟨#[]⟩, .slice none 0 0, .slice none 0 0, .bool false, .string ⟨#[]⟩, .int .u8 1, .pointer none, .pointer none]
set_option maxRecDepth 100000 in
set_option maxHeartbeats 1000000 in
theorem c81 (t : ByteArray) (w : World) : Calls Tryz.prog 81 #[.string t] w (Ret w (fS t)) := by
  unfold fS
  go_enter Tryz.func81, Tryz.ntmps81
  go_wp2_with fail
  exact bodyPost_ret (v := .agg #[.string ⟨#[]⟩, .float .f64 0, .string t, .slice none 0 0, .slice none 0 0, .bool false, .string ⟨#[]⟩, .int .u8 2, .pointer none, .pointer none]) (by first | (simp [results, Tryz.results81, go_sem, hc1, hz1]; done) | (simp [results, Tryz.results81, go_sem]; done) | (simp [results, Tryz.results81, go_sem, *]; done)) rfl (ret_mk (by repeat (first | (with_reducible exact Below.refl _ _) | (with_reducible assumption) | ((with_reducible refine Below.alloc ?_ ?_ _); rotate_left; focus (first | exact Nat.le_refl _ | omega | (simp; done) | (simp; omega))) | ((with_reducible refine Below.setCell ?_ ?_ _); rotate_left; focus (first | exact Nat.le_refl _ | omega | (simp; done) | (simp; omega))) | (with_reducible refine Below.drew ?_) | (with_reducible refine below_drewN ?_ _) | ((with_reducible refine below_via (by assumption) ?_ ?_); focus (first | exact Nat.le_refl _ | omega | (simp; done) | (simp; omega))))))
theorem c81u (t : ByteArray) (w : World) : Calls Tryz.prog 81 #[.string t] w (Ret w (.agg #[.string ⟨#[]⟩, .float .f64 0, .string t, .slice none 0 0, .slice none 0 0, .bool false, .string ⟨#[]⟩, .int .u8 2, .pointer none, .pointer none])) := c81 t w
set_option maxRecDepth 100000 in
set_option maxHeartbeats 2000000 in
theorem c66_2 (b : Nat) (t : ByteArray) (w : World) : Calls Tryz.prog 66 #[.agg #[.int .i64 2, .float .f64 b, .string t, .slice none 0 0]] w (Ret w (fS t)) := by
  unfold fS
  go_enter Tryz.func66, Tryz.ntmps66
  go_wp2_with (go_at_call 81; refine (c81u t _).mono ?_; rintro e w1 ⟨rfl, hb1⟩; obtain ⟨hc1, hf1, hz1⟩ := bcell hb1; have hle1 := hb1.size; try have hs1 : w.heap.size < w1.heap.size := hz1 _ (by first | (simp; done) | (simp; omega) | omega); try have hs2 : w.heap.size + 1 < w1.heap.size := hz1 _ (by first | (simp; done) | (simp; omega) | omega); try have hs3 : w.heap.size + 1 + 1 < w1.heap.size := hz1 _ (by first | (simp; done) | (simp; omega) | omega))
  exact bodyPost_ret (v := .agg #[.string ⟨#[]⟩, .float .f64 0, .string t, .slice none 0 0, .slice none 0 0, .bool false, .string ⟨#[]⟩, .int .u8 2, .pointer none, .pointer none]) (by first | (simp [results, Tryz.results66, go_sem, hc1, hz1]; done) | (simp [results, Tryz.results66, go_sem]; done) | (simp [results, Tryz.results66, go_sem, *]; done)) rfl (ret_mk (by repeat (first | (with_reducible exact Below.refl _ _) | (with_reducible assumption) | ((with_reducible refine Below.alloc ?_ ?_ _); rotate_left; focus (first | exact Nat.le_refl _ | omega | (simp; done) | (simp; omega))) | ((with_reducible refine Below.setCell ?_ ?_ _); rotate_left; focus (first | exact Nat.le_refl _ | omega | (simp; done) | (simp; omega))) | (with_reducible refine Below.drew ?_) | (with_reducible refine below_drewN ?_ _) | ((with_reducible refine below_via (by assumption) ?_ ?_); focus (first | exact Nat.le_refl _ | omega | (simp; done) | (simp; omega))))))
set_option maxRecDepth 100000 in
set_option maxHeartbeats 2000000 in
theorem c92 (b : Bool) (w : World) : Calls Tryz.prog 92 #[.bool b] w (Ret w (fB (if b then 4607182418800017408 else 0))) := by
  unfold fB
  cases b
  · go_enter Tryz.func92, Tryz.ntmps92
    go_wp2_with fail
    exact bodyPost_ret (v := .agg #[.string ⟨#[]⟩, .float .f64 0, .string ⟨#[]⟩, .slice none 0 0, .slice none 0 0, .bool true, .string ⟨#[]⟩, .int .u8 1, .pointer none, .pointer none]) (by first | (simp [results, Tryz.results92, go_sem, hc1, hz1]; done) | (simp [results, Tryz.results92, go_sem]; done) | (simp [results, Tryz.results92, go_sem, *]; done)) rfl (ret_mk (by repeat (first | (with_reducible exact Below.refl _ _) | (with_reducible assumption) | ((with_reducible refine Below.alloc ?_ ?_ _); rotate_left; focus (first | exact Nat.le_refl _ | omega | (simp; done) | (simp; omega))) | ((with_reducible refine Below.setCell ?_ ?_ _); rotate_left; focus (first | exact Nat.le_refl _ | omega | (simp; done) | (simp; omega))) | (with_reducible refine Below.drew ?_) | (with_reducible refine below_drewN ?_ _) | ((with_reducible refine below_via (by assumption) ?_ ?_); focus (first | exact Nat.le_refl _ | omega | (simp; done) | (simp; omega))))))
  · go_enter Tryz.func92, Tryz.ntmps92
    go_wp2_with fail
    exact bodyPost_ret (v := .agg #[.string ⟨#[]⟩, .float .f64 4607182418800017408, .string ⟨#[]⟩, .slice none 0 0, .slice none 0 0, .bool true, .string ⟨#[]⟩, .int .u8 1, .pointer none, .pointer none]) (by first | (simp [results, Tryz.results92, go_sem, hc1, hz1]; done) | (simp [results, Tryz.results92, go_sem]; done) | (simp [results, Tryz.results92, go_sem, *]; done)) rfl (ret_mk (by repeat (first | (with_reducible exact Below.refl _ _) | (with_reducible assumption) | ((with_reducible refine Below.alloc ?_ ?_ _); rotate_left; focus (first | exact Nat.le_refl _ | omega | (simp; done) | (simp; omega))) | ((with_reducible refine Below.setCell ?_ ?_ _); rotate_left; focus (first | exact Nat.le_refl _ | omega | (simp; done) | (simp; omega))) | (with_reducible refine Below.drew ?_) | (with_reducible refine below_drewN ?_ _) | ((with_reducible refine below_via (by assumption) ?_ ?_); focus (first | exact Nat.le_refl _ | omega | (simp; done) | (simp; omega))))))
set_option maxRecDepth 100000 in
set_option maxHeartbeats 2000000 in
theorem c45_B (b : Nat) (w : World) : Calls Tryz.prog 45 #[fB b] w (Ret w (.agg #[.int .i64 3, .float .f64 b, .string ⟨#[]⟩, .slice none 0 0])) := by
  unfold fB
  go_enter Tryz.func45, Tryz.ntmps45
  go_wp2_with fail
  exact bodyPost_ret (v := .agg #[.int .i64 3, .float .f64 b, .string ⟨#[]⟩, .slice none 0 0]) (by first | (simp [results, Tryz.results45, go_sem, hc1, hz1]; done) | (simp [results, Tryz.results45, go_sem]; done) | (simp [results, Tryz.results45, go_sem, *]; done)) rfl (ret_mk (by repeat (first | (with_reducible exact Below.refl _ _) | (with_reducible assumption) | ((with_reducible refine Below.alloc ?_ ?_ _); rotate_left; focus (first | exact Nat.le_refl _ | omega | (simp; done) | (simp; omega))) | ((with_reducible refine Below.setCell ?_ ?_ _); rotate_left; focus (first | exact Nat.le_refl _ | omega | (simp; done) | (simp; omega))) | (with_reducible refine Below.drew ?_) | (with_reducible refine below_drewN ?_ _) | ((with_reducible refine below_via (by assumption) ?_ ?_); focus (first | exact Nat.le_refl _ | omega | (simp; done) | (simp; omega))))))
set_option maxRecDepth 100000 in
set_option maxHeartbeats 2000000 in
theorem c78_S (t : ByteArray) (w : World) : Calls Tryz.prog 78 #[fS t] w (Ret w (.string t)) := by
  unfold fS
  go_enter Tryz.func78, Tryz.ntmps78
  go_wp2_with fail
  go_ret
  exact ret_mk (by repeat (first | (with_reducible exact Below.refl _ _) | (with_reducible assumption) | ((with_reducible refine Below.alloc ?_ ?_ _); rotate_left; focus (first | exact Nat.le_refl _ | omega | (simp; done) | (simp; omega))) | ((with_reducible refine Below.setCell ?_ ?_ _); rotate_left; focus (first | exact Nat.le_refl _ | omega | (simp; done) | (simp; omega))) | (with_reducible refine Below.drew ?_) | (with_reducible refine below_drewN ?_ _) | ((with_reducible refine below_via (by assumption) ?_ ?_); focus (first | exact Nat.le_refl _ | omega | (simp; done) | (simp; omega)))))
set_option maxRecDepth 100000 in
set_option maxHeartbeats 2000000 in
theorem c48 (fA : I → Value) (xs : List I) (A : Option Addr) (c : Nat) (w : World) (hl : xs.length ≤ 1000) (h0 : 0 < xs.length) (hx : IRow w A xs)
    (h57 : ∀ i, i ∈ xs → ∀ w', Calls Tryz.prog 66 #[.agg #[.int .i64 i.k, .float .f64 i.b, .string i.t, .slice none 0 0]] w' (Ret w' (fA i))) :
    Calls Tryz.prog 48 #[.slice A xs.length c] w (fun e w' => ∃ L bs, e = .returned (.pointer (some ⟨L, 0, none⟩)) ∧ bs.length = xs.length ∧ DL w' L bs (xs.map fun i => .iface 68 (fA i)) ∧ Below w.heap.size w w') := by
  rcases hx.icell with rfl | ⟨g, rfl, hg, hc⟩
  · cases h0
  have HC := Lib.hid hc
  have HF := Lib.hid h57
  clear hc hx h57
  obtain ⟨n, hn⟩ : ∃ n, n = xs.length := ⟨_, rfl⟩
  rw [← hn] at hl ⊢
  have HN := Lib.hid hn
  clear hn
  go_enter Tryz.func48, Tryz.ntmps48
  go_wp2_with (go_at_call 64; refine (c64 _).mono ?_; rintro e w1 ⟨rfl, hd1, hb1⟩)
  have HD1 := Lib.hid hd1
  clear hd1
  go_loopw [9] (fun i wr => ∃ (k : Nat) (bs : List Nat), k ≤ n ∧ i = .int .i64 k ∧ bs.length = k ∧ Below w.heap.size w wr ∧ DL wr w.heap.size bs ((xs.take k).map fun i => .iface 68 (fA i)) ∧ ∀ b, b ∈ bs → w.heap.size ≤ b) (fun i _ => n - (intOf i).toNat)
  case atStart => exact ⟨0, [], Nat.zero_le _, rfl, rfl, hb1, HD1.out, fun b h => (nomatch h)⟩
  case round =>
    obtain ⟨k, bs, hk, rfl, hbl, hb, hd, hbs⟩ := hrel
    have HD := Lib.hid hd
    have HBS := Lib.hid hbs
    clear hd hbs
    have hwr := hb.size
    by_cases hlt : k < n
    · have hkx : k < xs.length := by rw [← HN.out]; exact hlt
      obtain ⟨v, hv⟩ : ∃ v, xs[k]? = some v := ⟨_, List.getElem?_eq_getElem hkx⟩
      have hvm : v ∈ xs := List.mem_of_getElem? hv
      obtain ⟨h0, h1, h2, h3⟩ := (HC.out k v hv).below hb hg
      have HV := Lib.hid hv
      clear hv
      go_wp2_with (first
        | (go_at_call 66; refine (HF.out v hvm _).mono ?_; rintro e w2 ⟨rfl, hb2⟩; have hb2' : Below wr.heap.size wr w2 := (by repeat (first | (with_reducible exact Below.refl _ _) | (with_reducible assumption) | ((with_reducible refine Below.alloc ?_ ?_ _); rotate_left; focus (first | exact Nat.le_refl _ | omega | (simp; done) | (simp; omega))) | ((with_reducible refine Below.setCell ?_ ?_ _); rotate_left; focus (first | exact Nat.le_refl _ | omega | (simp; done) | (simp; omega))) | (with_reducible refine Below.drew ?_) | (with_reducible refine below_drewN ?_ _) | ((with_reducible refine below_via (by assumption) ?_ ?_); focus (first | exact Nat.le_refl _ | omega | (simp; done) | (simp; omega))))); have HD2 := Lib.hid (HD.out.below hb2'))
        | (go_at_call 65; refine (c65 w.heap.size bs _ 68 (fA v) _ (by omega) HD2.out).mono ?_; rintro e w3 ⟨rfl, rfl⟩))
      have hp := HD2.out.push (.iface 68 (fA v))
      rw [hbl] at hp
      have HP := Lib.hid hp
      clear hp
      go_roundw
      case rel => exact ⟨k + 1, bs ++ [w2.heap.size], by omega, by go_num, by simp [hbl], pushed_below (below_then hb hwr hb2') (Nat.le_refl _) (by
          unfold lastOf
          rcases Nat.eq_zero_or_pos bs.length with h | h
          · rw [List.getElem?_eq_none (by omega)]; exact Nat.le_refl _
          · obtain ⟨b, hb'⟩ : ∃ b, bs[bs.length - 1]? = some b := ⟨_, List.getElem?_eq_getElem (by omega)⟩
            rw [hb']; exact HBS.out b (List.mem_of_getElem? hb')) (by have := hb2'.size; omega),
        by rw [take_succ_of HV.out, List.map_append]; exact HP.out, fun b hbm => by
          rcases List.mem_append.1 hbm with h | h
          · exact HBS.out b h
          · simp at h; have := hb2'.size; omega⟩
      case measure => simp [intOf]; omega
    · have hk' : k = xs.length := by rw [← HN.out]; omega
      go_wp2_with fail
      go_ret
      have := HD.out
      rw [hk', List.take_length] at this
      exact ⟨_, bs, rfl, by rw [hbl, hk', HN.out], this, hb⟩
end Go.Proofs.YtkhgaenffnoimaaGreatDoor
