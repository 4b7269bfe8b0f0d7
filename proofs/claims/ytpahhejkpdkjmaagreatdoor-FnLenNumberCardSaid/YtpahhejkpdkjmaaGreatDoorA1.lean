/- Small functions of the reference: Doubt, Str, Err, Bool, Table, Lower, isWhole, month. -/
import Derived.Test.YtpahhejkpdkjmaaGreatDoorA0
set_option linter.unusedSimpArgs false
set_option linter.unusedVariables false
namespace Go.Proofs.YtpahhejkpdkjmaaGreatDoor
open Go.RowKit
attribute [local go_sem] run_store_float

theorem c38 (w : World) : Calls Tryz.prog 38 #[] w (Ret w (.agg #[.int .i64 6, .int .i64 0, .int .i64 0, .string ⟨#[]⟩, .slice none 0 0])) := by
  go_enter Tryz.func38, Tryz.ntmps38
  go_wp2
  exact bodyPost_ret (v := .agg #[.int .i64 6, .int .i64 0, .int .i64 0, .string ⟨#[]⟩, .slice none 0 0]) (by first | (simp [results, Tryz.results38, go_sem, hc1, hz1]; done) | (simp [results, Tryz.results38, go_sem]; done) | (simp [results, Tryz.results38, go_sem, *]; done)) rfl (ret_mk (by repeat (first | (with_reducible exact Below.refl _ _) | (with_reducible assumption) | ((with_reducible refine Below.alloc ?_ ?_ _); rotate_left; focus (first | exact Nat.le_refl _ | omega | (simp; done) | (simp; omega))) | ((with_reducible refine Below.setCell ?_ ?_ _); rotate_left; focus (first | exact Nat.le_refl _ | omega | (simp; done) | (simp; omega))) | (with_reducible refine Below.drew ?_) | (with_reducible refine below_drewN ?_ _) | ((with_reducible refine below_via (by assumption) ?_ ?_); focus (first | exact Nat.le_refl _ | omega | (simp; done) | (simp; omega))))))
theorem c10 (s : ByteArray) (w : World) : Calls Tryz.prog 10 #[.string s] w (Ret w (.agg #[.int .i64 2, .int .i64 0, .int .i64 0, .string s, .slice none 0 0])) := by
  go_enter Tryz.func10, Tryz.ntmps10
  go_wp2
  exact bodyPost_ret (v := .agg #[.int .i64 2, .int .i64 0, .int .i64 0, .string s, .slice none 0 0]) (by first | (simp [results, Tryz.results10, go_sem, hc1, hz1]; done) | (simp [results, Tryz.results10, go_sem]; done) | (simp [results, Tryz.results10, go_sem, *]; done)) rfl (ret_mk (by repeat (first | (with_reducible exact Below.refl _ _) | (with_reducible assumption) | ((with_reducible refine Below.alloc ?_ ?_ _); rotate_left; focus (first | exact Nat.le_refl _ | omega | (simp; done) | (simp; omega))) | ((with_reducible refine Below.setCell ?_ ?_ _); rotate_left; focus (first | exact Nat.le_refl _ | omega | (simp; done) | (simp; omega))) | (with_reducible refine Below.drew ?_) | (with_reducible refine below_drewN ?_ _) | ((with_reducible refine below_via (by assumption) ?_ ?_); focus (first | exact Nat.le_refl _ | omega | (simp; done) | (simp; omega))))))
theorem c129 (s : ByteArray) (w : World) : Calls Tryz.prog 129 #[.string s] w (Ret w (.agg #[.int .i64 4, .int .i64 0, .int .i64 0, .string s, .slice none 0 0])) := by
  go_enter Tryz.func129, Tryz.ntmps129
  go_wp2
  exact bodyPost_ret (v := .agg #[.int .i64 4, .int .i64 0, .int .i64 0, .string s, .slice none 0 0]) (by first | (simp [results, Tryz.results129, go_sem, hc1, hz1]; done) | (simp [results, Tryz.results129, go_sem]; done) | (simp [results, Tryz.results129, go_sem, *]; done)) rfl (ret_mk (by repeat (first | (with_reducible exact Below.refl _ _) | (with_reducible assumption) | ((with_reducible refine Below.alloc ?_ ?_ _); rotate_left; focus (first | exact Nat.le_refl _ | omega | (simp; done) | (simp; omega))) | ((with_reducible refine Below.setCell ?_ ?_ _); rotate_left; focus (first | exact Nat.le_refl _ | omega | (simp; done) | (simp; omega))) | (with_reducible refine Below.drew ?_) | (with_reducible refine below_drewN ?_ _) | ((with_reducible refine below_via (by assumption) ?_ ?_); focus (first | exact Nat.le_refl _ | omega | (simp; done) | (simp; omega))))))
def b01 (b : Bool) : Int := if b then 1 else 0
theorem c119 (b : Bool) (w : World) : Calls Tryz.prog 119 #[.bool b] w (Ret w (.agg #[.int .i64 3, .int .i64 (b01 b), .int .i64 0, .string ⟨#[]⟩, .slice none 0 0])) := by
  cases b
  · go_enter Tryz.func119, Tryz.ntmps119
    go_wp2
    all_goals exact bodyPost_ret (v := .agg #[.int .i64 3, .int .i64 0, .int .i64 0, .string ⟨#[]⟩, .slice none 0 0]) (by first | (simp [results, Tryz.results119, go_sem, hc1, hz1]; done) | (simp [results, Tryz.results119, go_sem]; done) | (simp [results, Tryz.results119, go_sem, *]; done)) rfl (ret_mk (by repeat (first | (with_reducible exact Below.refl _ _) | (with_reducible assumption) | ((with_reducible refine Below.alloc ?_ ?_ _); rotate_left; focus (first | exact Nat.le_refl _ | omega | (simp; done) | (simp; omega))) | ((with_reducible refine Below.setCell ?_ ?_ _); rotate_left; focus (first | exact Nat.le_refl _ | omega | (simp; done) | (simp; omega))) | (with_reducible refine Below.drew ?_) | (with_reducible refine below_drewN ?_ _) | ((with_reducible refine below_via (by assumption) ?_ ?_); focus (first | exact Nat.le_refl _ | omega | (simp; done) | (simp; omega))))))
  · go_enter Tryz.func119, Tryz.ntmps119
    go_wp2
    all_goals exact bodyPost_ret (v := .agg #[.int .i64 3, .int .i64 1, .int .i64 0, .string ⟨#[]⟩, .slice none 0 0]) (by first | (simp [results, Tryz.results119, go_sem, hc1, hz1]; done) | (simp [results, Tryz.results119, go_sem]; done) | (simp [results, Tryz.results119, go_sem, *]; done)) rfl (ret_mk (by repeat (first | (with_reducible exact Below.refl _ _) | (with_reducible assumption) | ((with_reducible refine Below.alloc ?_ ?_ _); rotate_left; focus (first | exact Nat.le_refl _ | omega | (simp; done) | (simp; omega))) | ((with_reducible refine Below.setCell ?_ ?_ _); rotate_left; focus (first | exact Nat.le_refl _ | omega | (simp; done) | (simp; omega))) | (with_reducible refine Below.drew ?_) | (with_reducible refine below_drewN ?_ _) | ((with_reducible refine below_via (by assumption) ?_ ?_); focus (first | exact Nat.le_refl _ | omega | (simp; done) | (simp; omega))))))
theorem c19 (A : Option Addr) (n c : Nat) (w : World) : Calls Tryz.prog 19 #[.slice A n c] w (Ret w (.agg #[.int .i64 5, .int .i64 0, .int .i64 0, .string ⟨#[]⟩, .slice A n c])) := by
  go_enter Tryz.func19, Tryz.ntmps19
  go_wp2
  exact bodyPost_ret (v := .agg #[.int .i64 5, .int .i64 0, .int .i64 0, .string ⟨#[]⟩, .slice A n c]) (by simp [results, Tryz.results19, go_sem]) rfl (ret_mk (by repeat (first | (with_reducible exact Below.refl _ _) | (with_reducible assumption) | ((with_reducible refine Below.alloc ?_ ?_ _); rotate_left; focus (first | exact Nat.le_refl _ | omega | (simp; done) | (simp; omega))) | ((with_reducible refine Below.setCell ?_ ?_ _); rotate_left; focus (first | exact Nat.le_refl _ | omega | (simp; done) | (simp; omega))) | (with_reducible refine Below.drew ?_) | (with_reducible refine below_drewN ?_ _) | ((with_reducible refine below_via (by assumption) ?_ ?_); focus (first | exact Nat.le_refl _ | omega | (simp; done) | (simp; omega))))))
def Byt (v : Value) : Prop := ∃ d : Int, 0 ≤ d ∧ d ≤ 255 ∧ v = .int .u8 d
def RetQ (w : World) (R : Value → Prop) (e : Ending) (w' : World) : Prop := ∃ v, e = .returned v ∧ R v ∧ w = w'
theorem retQ_mk {w : World} {R : Value → Prop} (v : Value) (hr : R v) : RetQ w R (.returned v) w := ⟨v, rfl, hr, rfl⟩
theorem c205 (c : Int) (w : World) (h0 : 0 ≤ c) (h1 : c ≤ 255) : Calls Tryz.prog 205 #[.int .u8 c] w (RetQ w Byt) := by
  go_enter Tryz.func205, Tryz.ntmps205
  go_wp2
  all_goals
    go_ret
    exact retQ_mk _ ⟨_, by omega, by omega, rfl⟩
def WholeP (k d : Int) (b : Bool) : Prop := b = true ↔ (k = 1 ∧ d = 1)
theorem c169 (k n d : Int) (t : ByteArray) (R : Value) (w : World) : Calls Tryz.prog 169 #[.agg #[.int .i64 k, .int .i64 n, .int .i64 d, .string t, R]] w (RetB w (WholeP k d)) := by
  by_cases hk : k = 1
  · subst hk
    by_cases hd : d = 1
    · subst hd
      go_enter Tryz.func169, Tryz.ntmps169
      go_wp2
      go_ret
      exact retB_mk _ ⟨fun _ => ⟨rfl, rfl⟩, fun _ => rfl⟩ (by repeat (first | (with_reducible exact Below.refl _ _) | (with_reducible assumption) | ((with_reducible refine Below.alloc ?_ ?_ _); rotate_left; focus (first | exact Nat.le_refl _ | omega | (simp; done) | (simp; omega))) | ((with_reducible refine Below.setCell ?_ ?_ _); rotate_left; focus (first | exact Nat.le_refl _ | omega | (simp; done) | (simp; omega))) | (with_reducible refine Below.drew ?_) | (with_reducible refine below_drewN ?_ _) | ((with_reducible refine below_via (by assumption) ?_ ?_); focus (first | exact Nat.le_refl _ | omega | (simp; done) | (simp; omega)))))
    · have hd' : (d == 1) = false := by simpa using hd
      go_enter Tryz.func169, Tryz.ntmps169
      go_wp2
      go_ret
      exact retB_mk _ ⟨fun h => (nomatch h), fun h => absurd h.2 hd⟩ (by repeat (first | (with_reducible exact Below.refl _ _) | (with_reducible assumption) | ((with_reducible refine Below.alloc ?_ ?_ _); rotate_left; focus (first | exact Nat.le_refl _ | omega | (simp; done) | (simp; omega))) | ((with_reducible refine Below.setCell ?_ ?_ _); rotate_left; focus (first | exact Nat.le_refl _ | omega | (simp; done) | (simp; omega))) | (with_reducible refine Below.drew ?_) | (with_reducible refine below_drewN ?_ _) | ((with_reducible refine below_via (by assumption) ?_ ?_); focus (first | exact Nat.le_refl _ | omega | (simp; done) | (simp; omega)))))
  · have hk' : (k == 1) = false := by simpa using hk
    go_enter Tryz.func169, Tryz.ntmps169
    go_wp2
    go_ret
    exact retB_mk _ ⟨fun h => (nomatch h), fun h => absurd h.1 hk⟩ (by repeat (first | (with_reducible exact Below.refl _ _) | (with_reducible assumption) | ((with_reducible refine Below.alloc ?_ ?_ _); rotate_left; focus (first | exact Nat.le_refl _ | omega | (simp; done) | (simp; omega))) | ((with_reducible refine Below.setCell ?_ ?_ _); rotate_left; focus (first | exact Nat.le_refl _ | omega | (simp; done) | (simp; omega))) | (with_reducible refine Below.drew ?_) | (with_reducible refine below_drewN ?_ _) | ((with_reducible refine below_via (by assumption) ?_ ?_); focus (first | exact Nat.le_refl _ | omega | (simp; done) | (simp; omega)))))
theorem c151 (s : ByteArray) (w : World) (hs : s.size ≤ 9223372036854775807) : Calls Tryz.prog 151 #[.string s] w (RetB w fun _ => True) := by
  go_enter Tryz.func151, Tryz.ntmps151
  go_wp2_with fail
  go_loop [3] (fun i => ∃ k : Nat, k ≤ s.size ∧ i = .int .i64 k) (fun i => s.size - (intOf i).toNat)
  case atStart => exact ⟨0, Nat.zero_le _, rfl⟩
  case round =>
    obtain ⟨k, hk, rfl⟩ := hrel
    by_cases hlt : k < s.size
    · go_wp2
      all_goals first
        | (go_ret; exact retB_mk _ trivial (by repeat (first | (with_reducible exact Below.refl _ _) | (with_reducible assumption) | ((with_reducible refine Below.alloc ?_ ?_ _); rotate_left; focus (first | exact Nat.le_refl _ | omega | (simp; done) | (simp; omega))) | ((with_reducible refine Below.setCell ?_ ?_ _); rotate_left; focus (first | exact Nat.le_refl _ | omega | (simp; done) | (simp; omega))) | (with_reducible refine Below.drew ?_) | (with_reducible refine below_drewN ?_ _) | ((with_reducible refine below_via (by assumption) ?_ ?_); focus (first | exact Nat.le_refl _ | omega | (simp; done) | (simp; omega))))))
        | (go_round
           case rel => exact ⟨k + 1, by omega, by go_num⟩
           case measure => simp [intOf]; omega)
    · go_wp2
      go_ret
      exact retB_mk _ trivial (by repeat (first | (with_reducible exact Below.refl _ _) | (with_reducible assumption) | ((with_reducible refine Below.alloc ?_ ?_ _); rotate_left; focus (first | exact Nat.le_refl _ | omega | (simp; done) | (simp; omega))) | ((with_reducible refine Below.setCell ?_ ?_ _); rotate_left; focus (first | exact Nat.le_refl _ | omega | (simp; done) | (simp; omega))) | (with_reducible refine Below.drew ?_) | (with_reducible refine below_drewN ?_ _) | ((with_reducible refine below_via (by assumption) ?_ ?_); focus (first | exact Nat.le_refl _ | omega | (simp; done) | (simp; omega)))))
theorem c237 (s : ByteArray) (w : World) (hs : s.size ≤ 9223372036854775807) : Calls Tryz.prog 237 #[.string s] w (RetB w fun _ => True) := by
  by_cases h3 : s.size < 3
  · go_enter Tryz.func237, Tryz.ntmps237
    go_wp2
    go_ret
    exact retB_mk _ trivial (by repeat (first | (with_reducible exact Below.refl _ _) | (with_reducible assumption) | ((with_reducible refine Below.alloc ?_ ?_ _); rotate_left; focus (first | exact Nat.le_refl _ | omega | (simp; done) | (simp; omega))) | ((with_reducible refine Below.setCell ?_ ?_ _); rotate_left; focus (first | exact Nat.le_refl _ | omega | (simp; done) | (simp; omega))) | (with_reducible refine Below.drew ?_) | (with_reducible refine below_drewN ?_ _) | ((with_reducible refine below_via (by assumption) ?_ ?_); focus (first | exact Nat.le_refl _ | omega | (simp; done) | (simp; omega)))))
  · go_enter Tryz.func237, Tryz.ntmps237
    go_wp2
    all_goals
      go_ret
      exact retB_mk _ trivial (by repeat (first | (with_reducible exact Below.refl _ _) | (with_reducible assumption) | ((with_reducible refine Below.alloc ?_ ?_ _); rotate_left; focus (first | exact Nat.le_refl _ | omega | (simp; done) | (simp; omega))) | ((with_reducible refine Below.setCell ?_ ?_ _); rotate_left; focus (first | exact Nat.le_refl _ | omega | (simp; done) | (simp; omega))) | (with_reducible refine Below.drew ?_) | (with_reducible refine below_drewN ?_ _) | ((with_reducible refine below_via (by assumption) ?_ ?_); focus (first | exact Nat.le_refl _ | omega | (simp; done) | (simp; omega)))))
set_option maxRecDepth 100000 in
theorem c182 (s : ByteArray) (w : World) (hs : s.size ≤ 9223372036854775807) : Calls Tryz.prog 182 #[.string s] w (RetV w fun v => ∃ t : ByteArray, t.size = s.size ∧ v = .string t) := by
  have hcv := fun W => run_bytes_of_string (P := Tryz.prog) W
  have hle : s.size ≤ (bytesRow s (grownCap w s.size 0 5)).size := by unfold bytesRow; simp
  have hB0 := (BBlk.of_bytes w s (grownCap w s.size 0 5) 5 _ ((bytesRow s (grownCap w s.size 0 5)).size + 1) hle).drew
  go_enter Tryz.func182, Tryz.ntmps182
  go_wp2_with fail
  clear hcv
  go_loopw [4] (fun i wr => ∃ (k : Nat) (xs : List Int), k ≤ s.size ∧ i = .int .i64 k ∧ xs.length = s.size ∧ BBlk wr w.heap.size xs ∧ Below w.heap.size w wr) (fun i _ => s.size - (intOf i).toNat)
  case atStart => exact ⟨0, s.data.toList.map fun b => (b.toNat : Int), Nat.zero_le _, rfl, by simp, hB0, (by repeat (first | (with_reducible exact Below.refl _ _) | (with_reducible assumption) | ((with_reducible refine Below.alloc ?_ ?_ _); rotate_left; focus (first | exact Nat.le_refl _ | omega | (simp; done) | (simp; omega))) | ((with_reducible refine Below.setCell ?_ ?_ _); rotate_left; focus (first | exact Nat.le_refl _ | omega | (simp; done) | (simp; omega))) | (with_reducible refine Below.drew ?_) | (with_reducible refine below_drewN ?_ _) | ((with_reducible refine below_via (by assumption) ?_ ?_); focus (first | exact Nat.le_refl _ | omega | (simp; done) | (simp; omega)))))⟩
  case round =>
    obtain ⟨k, xs, hk, rfl, hl, hB, hb⟩ := hrel
    have HL := Lib.hid hl
    clear hl hB0 hle
    by_cases hlt : k < s.size
    · obtain ⟨d0, hy0, hy1, hc1, hf1⟩ := hB.at_ k (by rw [HL.out]; exact hlt)
      go_wp2_with (go_at_call 205; refine (c205 _ _ (by assumption) (by assumption)).mono ?_; rintro e w1 ⟨_, rfl, ⟨d, hd0, hd1, rfl⟩, rfl⟩)
      go_roundw
      case rel => exact ⟨k + 1, xs.set k d, by omega, by go_num, by rw [List.length_set]; exact HL.out, hB.set_ k (by rw [HL.out]; exact hlt) d hd0 hd1, hb.setCell (Nat.le_refl _) _⟩
      case measure => simp [intOf]; omega
    · have hc := run_convert_bytes_arg (P := Tryz.prog) wr 117 5 Tryz.underlying117 Tryz.underlying5 w.heap.size 0 s.size (grownCap w s.size 0 5) xs HL.out (fun i hi => by rw [Nat.zero_add]; exact hB.cell i (by rw [HL.out]; exact hi)) 9 Tryz.underlying9
      go_wp2
      go_ret
      exact retV_mk _ ⟨_, (size_strOfNums xs).trans HL.out, rfl⟩ hb
end Go.Proofs.YtpahhejkpdkjmaaGreatDoor
