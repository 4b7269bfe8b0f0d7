/- fmtEFG of a whole number other than 0. -/
import Derived.Test.YtpahhejkpdkjmaaGreatDoorSE
set_option linter.unusedSimpArgs false
set_option linter.unusedVariables false
namespace Go.Proofs.YtpahhejkpdkjmaaGreatDoor
open Go.RowKit
attribute [local go_sem] run_store_float
set_option maxRecDepth 100000 in
set_option maxHeartbeats 2000000 in
theorem c243n (w0 : World) (v : Value) (b D nz : Nat) (w : World) (HO : Own w0 w 5 1 v []) (HB : Below w0.heap.size w0 w) (hne : v.ownBlock ≠ some b) (hb : b < w.heap.size) (hD0 : 1 ≤ D) (hD1 : D ≤ 6) (hnz : nz ≤ D)
    (hd : ∀ j, j < nz → ∃ x : Nat, x < 128 ∧ w.cell? ⟨b, j, none⟩ = some (.int .u8 x)) :
    Calls Tryz.prog 243 #[v, .bool false, .slice (some ⟨b, 0, none⟩) 32 32, .int .i64 D, .int .i64 nz, .int .i64 nz, .int .u8 103, .bool true] w
      (fun e w' => ∃ v1 ys, e = .returned v1 ∧ Own w0 w' 5 1 v1 ys ∧ ys.length = D ∧ BS ys ∧ Below w0.heap.size w0 w') := by
  have HH := Lib.hid HO
  have HDD := Lib.hid hd
  have HNE := Lib.hid hne
  clear HO hd hne
  have hmx : max ((nz : Int) - (D : Int)) 0 = 0 := by omega
  have hmn : min (nz : Int) (D : Int) = (nz : Int) := by omega
  have hx1 : ¬ D < nz := by omega
  have hx2 : 0 < D := by omega
  go_enter Tryz.func243, Tryz.ntmps243
  go_wp2_with fail
  go_loopw [0, 191] (fun u i wr => ∃ (k : Nat) (ys : List (List Value)), k ≤ nz ∧ i = .int .i64 k ∧ Own w0 wr 5 1 u ys ∧ Hid (ys.length = k) ∧ BS ys ∧ Below w0.heap.size w0 wr ∧ u.ownBlock ≠ some b ∧ b < wr.heap.size ∧ wr.heap[b]? = w.heap[b]?) (fun _ i _ => nz - (intOf i).toNat)
  case atStart => exact ⟨0, [], Nat.zero_le _, rfl, HH.out, Lib.hid rfl, fun y h => (nomatch h), HB, HNE.out, hb, rfl⟩
  case round =>
    obtain ⟨k, ys, hk, rfl, ho, HYL, hys, hbr, hnr, hbb, heq⟩ := hrel
    have HO := Lib.hid ho
    have HYS := Lib.hid hys
    have HNR := Lib.hid hnr
    have HEQ := Lib.hid heq
    have hyb : ys.length ≤ 100000 := by have := HYL.out; omega
    clear ho hys hnr heq
    by_cases hlt : k < nz
    · obtain ⟨x, hx, hc⟩ := HDD.out k hlt
      have hc2 : wr.cell? ⟨b, k, none⟩ = some (.int .u8 x) := (cell_heap_eq HEQ.out).trans hc
      clear hc
      go_wp2_with (at_builtin; refine app5 _ ys x _ _ rfl rfl rfl (by first | rfl | (change Value.slice (some ⟨_, 0, none⟩) 1 1 = _; simp)) HO.out hbr hyb ?_; intro v1 w2 ho2 hb2 hk2 hs2)
      have hkb := hk2 b hbb HNR.out
      go_roundw
      case rel => exact ⟨k + 1, ys ++ [[.int .u8 x]], by omega, by go_num, ho2, Lib.hid (by rw [List.length_append, HYL.out]; rfl), HYS.out.snoc hx, hb2, hkb.2, by omega, hkb.1.trans HEQ.out⟩
      case measure => simp [intOf]; omega
    · have hk' : k = nz := by omega
      subst hk'
      go_wp2_with fail
      go_loopw [0, 203] (fun u i w3 => ∃ (q : Nat) (zs : List (List Value)), q ≤ D - k ∧ i = .int .i64 q ∧ Own w0 w3 5 1 u zs ∧ Hid (zs.length = k + q) ∧ BS zs ∧ Below w0.heap.size w0 w3) (fun _ i _ => D - k - (intOf i).toNat)
      case atStart => exact ⟨0, ys, Nat.zero_le _, rfl, HO.out, HYL, HYS.out, hbr⟩
      case round =>
        obtain ⟨q, zs, hq, rfl, ho3, HZL, hzs, hb3⟩ := hrel
        have HO3 := Lib.hid ho3
        have HZS := Lib.hid hzs
        have hzb : zs.length ≤ 100000 := by have := HZL.out; omega
        clear ho3 hzs
        by_cases hlt2 : q < D - k
        · go_wp2_with (at_builtin; refine app5 _ zs 48 _ _ rfl rfl rfl (by first | rfl | (change Value.slice (some ⟨_, 0, none⟩) 1 1 = _; simp)) HO3.out hb3 hzb ?_; intro v1 w2 ho2 hb2 _ _)
          go_roundw
          case rel => exact ⟨q + 1, zs ++ [[.int .u8 48]], by omega, by go_num, ho2, Lib.hid (by rw [List.length_append, HZL.out]; rfl), HZS.out.snoc (x := 48) (by decide), hb2⟩
          case measure => simp [intOf]; omega
        · have hq' : q = D - k := by omega
          go_wp2_with fail
          go_ret
          exact ⟨_, zs, rfl, HO3.out, by rw [HZL.out]; omega, HZS.out, hb3⟩
set_option maxRecDepth 100000 in
set_option maxHeartbeats 2000000 in
theorem c243p (w0 : World) (v : Value) (b D nz : Nat) (w : World) (HO : Own w0 w 5 1 v []) (HB : Below w0.heap.size w0 w) (hne : v.ownBlock ≠ some b) (hb : b < w.heap.size) (hD0 : 1 ≤ D) (hD1 : D ≤ 6) (hnz : nz ≤ D)
    (hd : ∀ j, j < nz → ∃ x : Nat, x < 128 ∧ w.cell? ⟨b, j, none⟩ = some (.int .u8 x)) :
    Calls Tryz.prog 243 #[v, .bool true, .slice (some ⟨b, 0, none⟩) 32 32, .int .i64 D, .int .i64 nz, .int .i64 nz, .int .u8 103, .bool true] w
      (fun e w' => ∃ v1 ys, e = .returned v1 ∧ Own w0 w' 5 1 v1 ys ∧ ys.length = D + 1 ∧ BS ys ∧ Below w0.heap.size w0 w') := by
  have HH := Lib.hid HO
  have HDD := Lib.hid hd
  have HNE := Lib.hid hne
  clear HO hd hne
  have hmx : max ((nz : Int) - (D : Int)) 0 = 0 := by omega
  have hmn : min (nz : Int) (D : Int) = (nz : Int) := by omega
  have hx1 : ¬ D < nz := by omega
  have hx2 : 0 < D := by omega
  go_enter Tryz.func243, Tryz.ntmps243
  go_wp2_with (at_builtin; refine app5 v [] 45 _ _ rfl rfl rfl (by first | rfl | (change Value.slice (some ⟨_, 0, none⟩) 1 1 = _; simp)) HH.out HB (by simp) ?_; intro va wa hoa hba hka hsa)
  have hkab := hka b hb HNE.out
  go_loopw [0, 191] (fun u i wr => ∃ (k : Nat) (ys : List (List Value)), k ≤ nz ∧ i = .int .i64 k ∧ Own w0 wr 5 1 u ys ∧ Hid (ys.length = k + 1) ∧ BS ys ∧ Below w0.heap.size w0 wr ∧ u.ownBlock ≠ some b ∧ b < wr.heap.size ∧ wr.heap[b]? = w.heap[b]?) (fun _ i _ => nz - (intOf i).toNat)
  case atStart => exact ⟨0, [[.int .u8 45]], Nat.zero_le _, rfl, hoa, Lib.hid rfl, fun y h => ⟨45, by decide, by simpa using h⟩, hba, hkab.2, by omega, hkab.1⟩
  case round =>
    obtain ⟨k, ys, hk, rfl, ho, HYL, hys, hbr, hnr, hbb, heq⟩ := hrel
    have HO := Lib.hid ho
    have HYS := Lib.hid hys
    have HNR := Lib.hid hnr
    have HEQ := Lib.hid heq
    have hyb : ys.length ≤ 100000 := by have := HYL.out; omega
    clear ho hys hnr heq
    by_cases hlt : k < nz
    · obtain ⟨x, hx, hc⟩ := HDD.out k hlt
      have hc2 : wr.cell? ⟨b, k, none⟩ = some (.int .u8 x) := (cell_heap_eq HEQ.out).trans hc
      clear hc
      go_wp2_with (at_builtin; refine app5 _ ys x _ _ rfl rfl rfl (by first | rfl | (change Value.slice (some ⟨_, 0, none⟩) 1 1 = _; simp)) HO.out hbr hyb ?_; intro v1 w2 ho2 hb2 hk2 hs2)
      have hkb := hk2 b hbb HNR.out
      go_roundw
      case rel => exact ⟨k + 1, ys ++ [[.int .u8 x]], by omega, by go_num, ho2, Lib.hid (by rw [List.length_append, HYL.out]; rfl), HYS.out.snoc hx, hb2, hkb.2, by omega, hkb.1.trans HEQ.out⟩
      case measure => simp [intOf]; omega
    · have hk' : k = nz := by omega
      subst hk'
      go_wp2_with fail
      go_loopw [0, 203] (fun u i w3 => ∃ (q : Nat) (zs : List (List Value)), q ≤ D - k ∧ i = .int .i64 q ∧ Own w0 w3 5 1 u zs ∧ Hid (zs.length = k + 1 + q) ∧ BS zs ∧ Below w0.heap.size w0 w3) (fun _ i _ => D - k - (intOf i).toNat)
      case atStart => exact ⟨0, ys, Nat.zero_le _, rfl, HO.out, HYL, HYS.out, hbr⟩
      case round =>
        obtain ⟨q, zs, hq, rfl, ho3, HZL, hzs, hb3⟩ := hrel
        have HO3 := Lib.hid ho3
        have HZS := Lib.hid hzs
        have hzb : zs.length ≤ 100000 := by have := HZL.out; omega
        clear ho3 hzs
        by_cases hlt2 : q < D - k
        · go_wp2_with (at_builtin; refine app5 _ zs 48 _ _ rfl rfl rfl (by first | rfl | (change Value.slice (some ⟨_, 0, none⟩) 1 1 = _; simp)) HO3.out hb3 hzb ?_; intro v1 w2 ho2 hb2 _ _)
          go_roundw
          case rel => exact ⟨q + 1, zs ++ [[.int .u8 48]], by omega, by go_num, ho2, Lib.hid (by rw [List.length_append, HZL.out]; rfl), HZS.out.snoc (x := 48) (by decide), hb2⟩
          case measure => simp [intOf]; omega
        · have hq' : q = D - k := by omega
          go_wp2_with fail
          go_ret
          exact ⟨_, zs, rfl, HO3.out, by rw [HZL.out]; omega, HZS.out, hb3⟩
end Go.Proofs.YtpahhejkpdkjmaaGreatDoor
