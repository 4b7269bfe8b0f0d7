/- setDigits of a whole number. -/
import Derived.Test.YtpahhejkpdkjmaaGreatDoorSL
set_option linter.unusedSimpArgs false
set_option linter.unusedVariables false
namespace Go.Proofs.YtpahhejkpdkjmaaGreatDoor
open Go.RowKit Go.Sort Go.Lib
attribute [local go_sem] run_store_float
def encB (b : UInt8) : Value := .int .u8 (b.toNat : Int)
theorem below_putRow (w : World) (blk off n : Nat) (d : Array UInt8) : Below blk w ((putRow (fun (b : UInt8) => Value.int .u8 (b.toNat : Int)) w blk off d).drewN n) :=
  ⟨rfl, rfl, rfl, by show w.heap.size ≤ (putRow _ w blk off d).heap.size; simp, fun k hk => by
    show (putRow _ w blk off d).heap[k]? = _
    unfold putRow mapBlock
    simp only [Array.getElem?_modify]
    rw [if_neg (by omega)]⟩
set_option maxRecDepth 100000 in
set_option maxHeartbeats 1000000 in
theorem c246 (b nd d : Nat) (pI : Int) (w : World) (hd : d < 10 ^ nd) (hd64 : d < 18446744073709551616) (hnd : nd ≤ 32) (hp0 : -20 ≤ pI) (hp1 : pI ≤ 20) (hb : b < w.heap.size)
    (hz : ∀ j, j < 32 → w.cell? ⟨b, j, none⟩ = some (.int .u8 0)) (hf : ∀ j, w.frozen? ⟨b, j, none⟩ = false) :
    Calls Tryz.prog 246 #[.slice (some ⟨b, 0, none⟩) 32 32, .int .u64 d, .int .i64 pI, .int .i64 nd] w (fun e w' => ∃ nz : Nat, e = .returned (.tuple #[.int .i64 ((nd : Int) + pI), .int .i64 nz]) ∧ nz ≤ nd ∧ (0 < nz → dg d (nd - 1 - (nz - 1)) ≠ 48) ∧
      (∀ j, j < nd → ∃ x : Nat, x < 128 ∧ w'.cell? ⟨b, j, none⟩ = some (.int .u8 x)) ∧ Below b w w') := by
  have hH0 : Holds (fun (b : UInt8) => Value.int .u8 (b.toNat : Int)) w b 0 (Array.replicate nd (0 : UInt8)) := fun j hj => by
    have hj' : j < nd := by simpa using hj
    refine ⟨?_, hf _⟩
    rw [Nat.zero_add, hz j (by omega)]
    simp [getElem!_pos, hj']
  have H266 := Tryz.internal_strconv_formatBase10 b 0 32 d (Array.replicate nd 0) w hH0 (by rw [Array.size_replicate]; exact hd) hd64 (by rw [Array.size_replicate]; omega)
  rw [Array.size_replicate] at H266
  have H266' := Lib.hid H266
  have HH0 := Lib.hid hH0
  clear H266 hH0 hd hd64
  go_enter Tryz.func246, Tryz.ntmps246
  go_wp2_with fail
  refine H266'.out.mono ?_
  rintro e w2 ⟨rfl, n, v', dk, hw2, hinv⟩
  have hsz : dk.size = nd := hinv.size
  have hcell : ∀ j, j < nd → w2.cell? ⟨b, j, none⟩ = some (.int .u8 (dk[j]!.toNat : Int)) := fun j hj => by
    have h := cell?_putRow (fun (b : UInt8) => Value.int .u8 (b.toNat : Int)) w b 0 _ dk HH0.out (by rw [hsz, Array.size_replicate]) j (by omega)
    rw [Nat.zero_add] at h
    rw [hw2]
    exact h
  have hbel : Below b w w2 := by rw [hw2]; exact below_putRow w b 0 n dk
  have HD : Hid (∀ t, t < nd → dk[t]! = dg d (nd - 1 - t)) := Lib.hid fun t ht => hinv.done t (Nat.zero_le _) ht
  have HC := Lib.hid hcell
  clear hcell hinv hw2 HH0 hz hf
  go_wp2_with fail
  go_loopw [3] (fun i wr => wr = w2 ∧ ∃ m : Nat, m ≤ nd ∧ i = .int .i64 m) (fun i _ => (RowKit.intOf i).toNat)
  case atStart => exact ⟨rfl, nd, Nat.le_refl _, rfl⟩
  case round =>
    obtain ⟨rfl, m, hm, rfl⟩ := hrel
    by_cases h0 : 0 < m
    · have hc := HC.out (m - 1) (by omega)
      have em : ((m - 1 : Nat) : Int) = (m : Int) - 1 := by omega
      by_cases h48 : dk[m - 1]! = 48
      · rw [h48] at hc
        go_wp2_with fail
        go_roundw
        case rel => exact ⟨by first | rfl | trivial, m - 1, by omega, by rw [em]⟩
        case measure => simp [RowKit.intOf]; omega
      · have h48i : ¬ ((dk[m - 1]!.toNat : Int) = 48) := fun h => h48 (by
          have h2 : dk[m - 1]!.toNat = 48 := by omega
          exact UInt8.toNat_inj.1 h2)
        go_wp2_with fail
        (refine bodyPost_ret (v := .tuple #[.int .i64 ((nd : Int) + pI), .int .i64 m]) ?_ rfl ?_; (focus (first | (simp [results, Tryz.results246, go_sem, hc1, hz1]; done) | (simp [results, Tryz.results246, go_sem]; done) | (simp [results, Tryz.results246, go_sem, *]; done))); exact ⟨m, rfl, hm, fun _ => by rw [← HD.out (m - 1) (by omega)]; exact h48, fun j hj => ⟨_, by rw [HD.out j hj]; exact dg_lt _ _, HC.out j hj⟩, hbel⟩)
    · have hm0 : m = 0 := by omega
      subst hm0
      go_wp2_with fail
      (refine bodyPost_ret (v := .tuple #[.int .i64 ((nd : Int) + pI), .int .i64 0]) ?_ rfl ?_; (focus (first | (simp [results, Tryz.results246, go_sem, hc1, hz1]; done) | (simp [results, Tryz.results246, go_sem]; done) | (simp [results, Tryz.results246, go_sem, *]; done))); exact ⟨0, rfl, Nat.zero_le _, fun h => absurd h (Nat.lt_irrefl _), fun j hj => ⟨_, by rw [HD.out j hj]; exact dg_lt _ _, HC.out j hj⟩, hbel⟩)
end Go.Proofs.YtpahhejkpdkjmaaGreatDoor
