/- formatBits of a base that is no power of two. -/
import Derived.Test.YtkhgaenffnoimaaGreatDoorJJ
set_option linter.unusedSimpArgs false
set_option linter.unusedVariables false
namespace Go.Proofs.YtkhgaenffnoimaaGreatDoor
open Go.RowKit
attribute [local go_sem] run_store_float
/-- The digits of a number, the greatest first. -/
def digs (b : Nat) : Nat → Nat → List Nat
  | 0, _ => []
  | f + 1, n => if n < b then [n] else digs b f (n / b) ++ [n % b]
def lch (d : Nat) : Nat := if d < 10 then 48 + d else 87 + d
theorem lch_fin : ∀ x : Fin 36, (((⟨#[48, 49, 50, 51, 52, 53, 54, 55, 56, 57, 97, 98, 99, 100, 101, 102, 103, 104, 105, 106, 107, 108, 109, 110, 111, 112, 113, 114, 115, 116, 117, 118, 119, 120, 121, 122]⟩ : ByteArray))[x.val]'x.isLt).toNat = lch x.val := by decide +kernel
theorem lch_at (x : Nat) (h : x < ((⟨#[48, 49, 50, 51, 52, 53, 54, 55, 56, 57, 97, 98, 99, 100, 101, 102, 103, 104, 105, 106, 107, 108, 109, 110, 111, 112, 113, 114, 115, 116, 117, 118, 119, 120, 121, 122]⟩ : ByteArray)).size) : (((⟨#[48, 49, 50, 51, 52, 53, 54, 55, 56, 57, 97, 98, 99, 100, 101, 102, 103, 104, 105, 106, 107, 108, 109, 110, 111, 112, 113, 114, 115, 116, 117, 118, 119, 120, 121, 122]⟩ : ByteArray))[x]'h).toNat = lch x := lch_fin ⟨x, h⟩
attribute [local go_sem] lch_at
def isP2 (b : Nat) : Bool := b == 2 || b == 4 || b == 8 || b == 16 || b == 32
theorem and_pred : ∀ b : Fin 37, 2 ≤ b.val → (bits BinOp.and IntKind.i64 ((b.val : Nat) : Int) (((b.val : Nat) : Int) - 1) == 0) = isP2 b.val := by decide +kernel
set_option maxRecDepth 100000 in
theorem c167 (b : Nat) (w : World) (h0 : 2 ≤ b) (h1 : b ≤ 36) : Calls Tryz.prog 167 #[.int .i64 b] w (fun e w' => e = .returned (.bool (isP2 b)) ∧ w' = w) := by
  have h := and_pred ⟨b, by omega⟩ h0
  dsimp only at h
  rw [← h]
  clear h
  go_enter Tryz.func167, Tryz.ntmps167
  go_wp2_with fail
  go_ret
  exact ⟨rfl, rfl⟩
theorem zc201 : Tryz.zeroCells201 = Array.replicate 65 (.int .u8 0) := by kernel_rfl
theorem rep_getD (m j : Nat) : (List.replicate m (0 : Int)).getD j 0 = 0 := by
  simp only [List.getD, List.getElem?_replicate]
  split <;> rfl
theorem bblk201 (w : World) (m : Nat) (hm : m = 65) : BBlk (w.alloc (.cells Tryz.zeroCells201 201)) w.heap.size (List.replicate m 0) := by
  rw [zc201]
  refine ⟨by simp, fun j hj => ?_, fun j hj => frozen_alloc _ _ _ _, fun j hj => ?_⟩
  · rw [World.cell?_alloc_new, rep_getD]
    rw [List.length_replicate] at hj
    rw [Array.getElem?_replicate, if_pos (by omega)]
  · rw [rep_getD]
    omega
/-- m zeros, and behind them the digits' letters. -/
def dRow (m : Nat) (tl : List Nat) : List Int := List.replicate m 0 ++ tl.map fun d => ((lch d : Nat) : Int)
theorem dRow_len (m : Nat) (tl : List Nat) : (dRow m tl).length = m + tl.length := by simp [dRow]
theorem dRow_set (m : Nat) (tl : List Nat) (d : Nat) : (dRow (m + 1) tl).set m ((lch d : Nat) : Int) = dRow m (d :: tl) := by
  unfold dRow
  rw [List.replicate_succ', List.append_assoc, List.set_append_right _ _ (by simp)]
  simp
theorem digs_step (b f x : Nat) (h : b ≤ x) : digs b (f + 1) x = digs b f (x / b) ++ [x % b] := by
  rw [digs, if_neg (by omega)]
theorem digs_last (b f x : Nat) (h : x < b) : digs b (f + 1) x = [x] := by
  rw [digs, if_pos h]
theorem addr_add (g m j : Nat) : (⟨g, m, none⟩ : Addr).add j = ⟨g, m + j, none⟩ := by unfold Addr.add; split <;> simp_all
theorem lch_lt (d : Nat) (h : d < 36) : lch d < 128 := by unfold lch; split <;> omega
theorem digs_mem (b : Nat) (hb : 2 ≤ b) : ∀ (f n d : Nat), d ∈ digs b f n → d < b
  | 0, n, d, h => by simp [digs] at h
  | f + 1, n, d, h => by
    rw [digs] at h
    split at h
    · simp at h
      omega
    · rcases List.mem_append.1 h with h | h
      · exact digs_mem b hb f _ d h
      · simp at h
        rw [h]
        exact Nat.mod_lt _ (by omega)
theorem dig36 (b n : Nat) (h0 : 2 ≤ b) (h1 : b ≤ 36) (l : List Nat) (h : digs b 40 n = l) : ∀ d, d ∈ l → d < 36 := fun d hd => by
  have := digs_mem b h0 40 n d (by rw [h]; exact hd)
  omega
theorem under201 : Tryz.prog.underlying 201 = some (.array 65 5) := by kernel_rfl
theorem under147 : Tryz.prog.underlying 147 = some (.slice 5) := by kernel_rfl
theorem slice201 (W : World) (g : Nat) (l : Int) (k : Nat) (hk : k ≤ 37) (hl : l = ((65 - k - 1 : Nat) : Int)) : (Instr.sliceAt 201 (.pointer (some ⟨g, 0, none⟩)) (some (.int .i64 l)) none none).run Tryz.prog W = .ok (.slice (some ⟨g, 65 - k - 1, none⟩) (k + 1) (k + 1)) W := by
  have hal : Tryz.prog.arrayLen 201 = 65 := by simp [Program.arrayLen, under201]
  have hel : Tryz.prog.elem 201 = 5 := by simp [Program.elem, under201]
  rw [run_sliceAt_array_l W 201 ⟨g, 0, none⟩ (by rw [hal, hel]; exact under201) .i64 l (by omega) (by rw [hal]; omega), hal, hel]
  subst hl
  go_simp
  omega
theorem conv201 (W : World) (g m k : Nat) (ds : List Nat) (h : BBlk W g (dRow m ds)) (hl : ds.length = k + 1) (hd : ∀ d, d ∈ ds → d < 36) :
    (convert 147 9 (.slice (some ⟨g, m, none⟩) (k + 1) (k + 1))).run Tryz.prog W = .ok (.string ⟨(ds.map fun d => UInt8.ofNat (lch d)).toArray⟩) W := by
  have e : (ds.map fun d => UInt8.ofNat (lch d)).length = k + 1 := by rw [List.length_map, hl]
  have := run_convert_bytes_back (P := Tryz.prog) W 147 9 5 ⟨g, m, none⟩ (k + 1) (ds.map fun d => UInt8.ofNat (lch d)) under147 Tryz.underlying5 Tryz.underlying9 (fun j hj => ?_)
  · rw [e] at this
    exact this
  · rw [e] at hj
    rw [addr_add]
    have h2 := h.cell (m + j) (by rw [dRow_len]; omega)
    rw [h2]
    have hj' : j < ds.length := by omega
    have hdj := hd _ (List.getElem_mem hj')
    simp only [dRow, List.getD]
    rw [List.getElem?_append_right (by simp), List.length_replicate, show m + j - m = j by omega, List.getElem?_map, List.getElem?_eq_getElem hj']
    have h3 := lch_lt _ hdj
    simp only [Option.map_some, Option.getD_some, List.getElem_map]
    congr 2
    rw [UInt8.toNat_ofNat']
    omega
set_option maxRecDepth 100000 in
set_option maxHeartbeats 1000000 in
theorem c142G (b n : Nat) (w : World) (h0 : 2 ≤ b) (h1 : b ≤ 36) (h10 : b ≠ 10) (hp : isP2 b = false) (hn : n ≤ 99999999999) :
    Calls Tryz.prog 142 #[.slice none 0 0, .int .u64 n, .int .i64 b, .bool false, .bool false] w (Ret w (.tuple #[.slice none 0 0, .string ⟨((digs b 40 n).map fun d => UInt8.ofNat (lch d)).toArray⟩])) := by
  have h10' : ((b : Int) == 10) = false := by
    have : ¬ (b : Int) = 10 := by omega
    simpa using this
  go_enter Tryz.func142, Tryz.ntmps142
  go_wp2_with (go_at_call 167; refine (c167 b _ h0 h1).mono ?_; rintro e w1 ⟨rfl, rfl⟩; rw [hp])
  have hbA : Below w.heap.size w (w.alloc (.cells Tryz.zeroCells201 201)) := (by repeat (first | (with_reducible exact Below.refl _ _) | (with_reducible assumption) | ((with_reducible refine Below.alloc ?_ ?_ _); rotate_left; focus (first | exact Nat.le_refl _ | omega | (simp; done) | (simp; omega))) | ((with_reducible refine Below.setCell ?_ ?_ _); rotate_left; focus (first | exact Nat.le_refl _ | omega | (simp; done) | (simp; omega))) | (with_reducible refine Below.drew ?_) | (with_reducible refine below_drewN ?_ _) | ((with_reducible refine below_via (by assumption) ?_ ?_); focus (first | exact Nat.le_refl _ | omega | (simp; done) | (simp; omega)))))
  have HB0 := Lib.hid (bblk201 w 65 rfl)
  generalize (w.alloc (.cells Tryz.zeroCells201 201)) = W1 at hbA HB0 ⊢
  go_loopw [1, 13] (fun u i wr => ∃ (x k : Nat) (tl : List Nat), k ≤ 37 ∧ x < 2 ^ (37 - k) ∧ u = .int .u64 x ∧ i = .int .i64 ((65 - k : Nat) : Int) ∧ digs b 40 n = digs b (40 - k) x ++ tl ∧ tl.length = k ∧ Below w.heap.size w wr ∧ BBlk wr w.heap.size (dRow (65 - k) tl)) (fun u _ _ => (intOf u).toNat)
  case atStart => exact ⟨n, 0, [], by omega, by omega, rfl, rfl, by simp, rfl, hbA, by simpa [dRow] using HB0.out⟩
  case round =>
    obtain ⟨x, k, tl, hk, hx, rfl, rfl, hd, htl, hb, hbb⟩ := hrel
    have HD := Lib.hid hd
    have HBB := Lib.hid hbb
    have HX := Lib.hid hx
    clear hd hbb hx
    by_cases hxb : b ≤ x
    · have hk36 : k < 36 := by
        have h := HX.out
        by_cases h36 : k < 36
        · exact h36
        · have : 2 ^ (37 - k) ≤ 2 ^ 1 := Nat.pow_le_pow_right (by decide) (by omega)
          omega
      have hx64 : x < 18446744073709551616 := by
        have h := HX.out
        have : 2 ^ (37 - k) ≤ 2 ^ 37 := Nat.pow_le_pow_right (by decide) (by omega)
        omega
      obtain ⟨q, hq⟩ : ∃ q, q = x / b := ⟨_, rfl⟩
      obtain ⟨r, hr⟩ : ∃ r, r = x % b := ⟨_, rfl⟩
      obtain ⟨m, hm⟩ : ∃ m, m = q * b := ⟨_, rfl⟩
      have hrb : r < b := by rw [hr]; exact Nat.mod_lt _ (by omega)
      have hqx : q < x := by rw [hq]; exact Nat.div_lt_self (by omega) (by omega)
      have hdm : x = m + r := by rw [hm, hq, hr, Nat.mul_comm]; exact (Nat.div_add_mod x b).symm
      have w1 : IntKind.u64.wrap ((x : Int) / (b : Int)) = (q : Int) := by
        rw [IntKind.wrap_u64, hq, Int.natCast_ediv]
        have : (x : Int) / (b : Int) = ((x / b : Nat) : Int) := by rw [Int.natCast_ediv]
        omega
      have w2 : IntKind.u64.wrap ((q : Int) * (b : Int)) = (m : Int) := by
        rw [IntKind.wrap_u64, hm, Int.natCast_mul]
        have : (q : Int) * (b : Int) = ((q * b : Nat) : Int) := by rw [Int.natCast_mul]
        omega
      have w3 : IntKind.u64.wrap ((x : Int) - (m : Int)) = (r : Int) := by
        rw [IntKind.wrap_u64]
        omega
      have ec : wr.cell? ⟨w.heap.size, 65 - k - 1, none⟩ = some (.int .u8 0) := by
        have h := HBB.out.cell (65 - k - 1) (by rw [dRow_len]; omega)
        rw [h]
        unfold dRow
        simp only [List.getD]
        rw [List.getElem?_append_left (by simp; omega), List.getElem?_replicate, if_pos (by omega)]
        rfl
      have ef : wr.frozen? ⟨w.heap.size, 65 - k - 1, none⟩ = false := HBB.out.free _ (by rw [dRow_len]; omega)
      have HQ := Lib.hid (And.intro hq (And.intro hr hdm))
      clear hq hr hm hdm
      go_wp2_with fail
      obtain ⟨hq, hr, hdm⟩ := HQ.out
      refine ⟨⟨q, k + 1, r :: tl, by omega, ?_, rfl, ?_, ?_, by simp [htl], hb.setCell (Nat.le_refl _) _, ?_⟩, by simp only [intOf]; omega⟩
      · have h := HX.out
        rw [show 37 - k = (37 - (k + 1)) + 1 by omega, Nat.pow_succ] at h
        rw [hq]
        refine (Nat.div_lt_iff_lt_mul (by omega)).2 (Nat.lt_of_lt_of_le h (Nat.mul_le_mul_left _ h0))
      · congr 1
        omega
      · rw [HD.out, show 40 - k = (40 - (k + 1)) + 1 by omega, digs_step _ _ _ hxb, hq, hr]
        simp
      · have h := HBB.out.set_ (65 - k - 1) (by rw [dRow_len]; omega) ((lch r : Nat) : Int) (by omega) (by have := lch_lt r (by omega); omega)
        rw [show 65 - k = (65 - (k + 1)) + 1 by omega] at h
        rw [show (65 - (k + 1)) + 1 - 1 = 65 - (k + 1) by omega, dRow_set] at h
        rw [show 65 - k - 1 = 65 - (k + 1) by omega]
        exact h
    · have hx36 : x < 36 := by omega
      have hk37 : k ≤ 37 := hk
      have ec : wr.cell? ⟨w.heap.size, 65 - k - 1, none⟩ = some (.int .u8 0) := by
        have h := HBB.out.cell (65 - k - 1) (by rw [dRow_len]; omega)
        rw [h]
        unfold dRow
        simp only [List.getD]
        rw [List.getElem?_append_left (by simp; omega), List.getElem?_replicate, if_pos (by omega)]
        rfl
      have ef : wr.frozen? ⟨w.heap.size, 65 - k - 1, none⟩ = false := HBB.out.free _ (by rw [dRow_len]; omega)
      have hF : BBlk (wr.setCell ⟨w.heap.size, 65 - k - 1, none⟩ (.int .u8 ((lch x : Nat) : Int))) w.heap.size (dRow (65 - k - 1) (x :: tl)) := by
        have h := HBB.out.set_ (65 - k - 1) (by rw [dRow_len]; omega) ((lch x : Nat) : Int) (by omega) (by have := lch_lt x hx36; omega)
        rw [show 65 - k = (65 - k - 1) + 1 by omega] at h
        rw [show (65 - k - 1) + 1 - 1 = 65 - k - 1 by omega, dRow_set] at h
        exact h
      have hdd : digs b 40 n = x :: tl := by
        rw [HD.out, show 40 - k = (39 - k) + 1 by omega, digs_last _ _ _ (by omega)]
        rfl
      have hsl : ∀ W, (Instr.sliceAt 201 (.pointer (some ⟨w.heap.size, 0, none⟩)) (some (.int .i64 (((65 - k : Nat) : Int) - 1))) none none).run Tryz.prog W = .ok (.slice (some ⟨w.heap.size, 65 - k - 1, none⟩) (k + 1) (k + 1)) W := fun W => slice201 W _ _ k hk37 (by omega)
      have hcv : (convert 147 9 (.slice (some ⟨w.heap.size, 65 - k - 1, none⟩) (k + 1) (k + 1))).run Tryz.prog (wr.setCell ⟨w.heap.size, 65 - k - 1, none⟩ (.int .u8 ((lch x : Nat) : Int))) = .ok (.string ⟨((digs b 40 n).map fun d => UInt8.ofNat (lch d)).toArray⟩) (wr.setCell ⟨w.heap.size, 65 - k - 1, none⟩ (.int .u8 ((lch x : Nat) : Int))) := by
        rw [hdd]
        exact conv201 _ _ _ k (x :: tl) hF (by simp [htl]) (dig36 b n h0 h1 _ hdd)
      clear hF hdd
      go_wp2_with fail
      go_ret2
      exact ret_mk (hb.setCell (Nat.le_refl _) _)
end Go.Proofs.YtkhgaenffnoimaaGreatDoor
