/- LEN of the implementation: the count of a text's units. -/
import Derived.Test.YtpahhejkpdkjmaaGreatDoorSK
import Derived.Test.YtpahhejkpdkjmaaGreatDoorJC
import Derived.Lib.OthersKept
import Derived.Lib.BufferKept
set_option linter.unusedSimpArgs false
set_option linter.unusedVariables false
namespace Go.Proofs.YtpahhejkpdkjmaaGreatDoor
open Go.RowKit
attribute [local go_sem] run_store_float as64
set_option maxRecDepth 100000 in
theorem c139 (r : Int) (w : World) (h0 : 0 ≤ r) (h1 : r < 128) : Calls Tryz.prog 139 #[.int .i32 r] w (fun e w' => e = .returned (.int .i64 1) ∧ w' = w) := by
  go_enter Tryz.func139, Tryz.ntmps139
  go_wp2_with fail
  go_ret
  exact ⟨rfl, rfl⟩
set_option maxRecDepth 100000 in
set_option maxHeartbeats 1000000 in
theorem c60 (s : ByteArray) (w : World) (hs : s.size ≤ 1000000) (ha : Asc s) : Calls Tryz.prog 60 #[.string s] w (Ret w (.int .i64 s.size)) := by
  have hk0 : (w.iter s 0).heap[w.heap.size]? = some (.stringIter s 0) := by
    have h5 := World.iter_heap w s 0
    simpa using h5
  have hb0 : Below w.heap.size w (w.iter s 0) := (Below.refl _ w).alloc (Nat.le_refl _) _
  have HA := Lib.hid ha
  clear ha
  go_enter Tryz.func60, Tryz.ntmps60
  go_wp2_with fail
  go_loopw [3] (fun v wr => ∃ pos : Nat, pos ≤ s.size ∧ v = .int .i64 pos ∧ wr.heap[w.heap.size]? = some (.stringIter s pos) ∧ Below w.heap.size w wr) (fun _ wr => s.size - wr.iterPos w.heap.size)
  case atStart => exact ⟨0, Nat.zero_le _, rfl, hk0, hb0⟩
  case round =>
    obtain ⟨pos, hps, rfl, hk, hnx⟩ := hrel
    clear hk0 hb0
    by_cases hp : pos < s.size
    · have h128 := HA.out pos hp
      have hnext : ∀ ty, (Instr.next (.pointer (some ⟨w.heap.size, 0, none⟩)) true ty).run Tryz.prog wr = _ := fun ty => Lib.run_next_ascii_at wr w.heap.size s pos ty hk hp h128
      have hk1 := Lib.iterAt_heap wr w.heap.size s pos (pos + 1) hk
      have hnx1 : Below w.heap.size w (wr.iterAt w.heap.size s (pos + 1)) := Lib.below_iterAt hnx (Nat.le_refl _) s (pos + 1)
      have hmu : wr.iterPos w.heap.size = pos := by simp [World.iterPos, hk]
      generalize wr.iterAt w.heap.size s (pos + 1) = W1 at hnext hk1 hnx1
      go_wp2_with (go_at_call 139; refine (c139 _ _ (by omega) (by omega)).mono ?_; rintro e w2 ⟨rfl, rfl⟩)
      go_roundw
      case rel => exact ⟨pos + 1, by omega, by go_num, hk1, hnx1⟩
      case measure =>
        have hmu2 : w2.iterPos w.heap.size = pos + 1 := by simp [World.iterPos, hk1]
        rw [hmu, hmu2]
        omega
    · have hpe : pos = s.size := by omega
      subst hpe
      have hnext : ∀ ty, (Instr.next (.pointer (some ⟨w.heap.size, 0, none⟩)) true ty).run Tryz.prog wr = _ := fun ty => Lib.run_next_end_at wr w.heap.size s s.size ty hk hp
      go_wp2_with fail
      go_ret
      exact ret_mk hnx
set_option maxRecDepth 100000 in
set_option maxHeartbeats 2000000 in
theorem c52_N (k : Int) (w : World) (hk : k.natAbs < 1000000) (hT : Tabs w) :
    Calls Tryz.prog 52 #[fN (floatOfInt FloatKind.f64 k)] w (fun e w' => ∃ s, e = .returned (.string s) ∧ s.size = lenN k ∧ Asc s ∧ Below w.heap.size w w') := by
  have HT := Lib.hid (fun W (hW : Below w.heap.size w W) => c130 k W hk (hT.below hW hT.pow.1))
  clear hT
  unfold fN
  generalize floatOfInt FloatKind.f64 k = b at HT ⊢
  go_enter Tryz.func52, Tryz.ntmps52
  go_wp2_with fail
  refine (HT.out _ (by repeat (first | (with_reducible exact Below.refl _ _) | (with_reducible assumption) | ((with_reducible refine Below.alloc ?_ ?_ _); rotate_left; focus (first | exact Nat.le_refl _ | omega | (simp; done) | (simp; omega))) | ((with_reducible refine Below.setCell ?_ ?_ _); rotate_left; focus (first | exact Nat.le_refl _ | omega | (simp; done) | (simp; omega))) | (with_reducible refine Below.drew ?_) | (with_reducible refine below_drewN ?_ _) | ((with_reducible refine below_via (by assumption) ?_ ?_); focus (first | exact Nat.le_refl _ | omega | (simp; done) | (simp; omega)))))).mono ?_
  rintro e w2 ⟨s, rfl, hl, hs, hb⟩
  have hbw : Below w.heap.size w w2 := keepS' (Below.alloc (Below.refl w.heap.size w) (Nat.le_refl _) _) (by simp) hb
  go_wp2_with fail
  go_ret
  exact ⟨s, rfl, hl, hs, hbw⟩
set_option maxRecDepth 100000 in
set_option maxHeartbeats 400000 in
theorem c57_1 (b : Nat) (t : ByteArray) (w : World) (h : FOK b) : Calls Tryz.prog 57 #[.agg #[.int .i64 1, .float .f64 b, .string t, .slice none 0 0]] w (Ret w (fN b)) := by
  have H := Lib.hid (fun W => c59' b W h)
  clear h
  unfold fN
  go_enter Tryz.func57, Tryz.ntmps57
  go_wp2_with fail
  refine (H.out _).mono ?_
  rintro e w1 ⟨rfl, hb1⟩
  obtain ⟨hc1, hf1, hz1⟩ := bcell hb1
  have hs1 : w.heap.size < w1.heap.size := hz1 _ (by simp; omega)
  have hs2 : w.heap.size + 1 < w1.heap.size := hz1 _ (by simp)
  have hbw : Below w.heap.size w w1 := (by repeat (first | (with_reducible exact Below.refl _ _) | (with_reducible assumption) | ((with_reducible refine Below.alloc ?_ ?_ _); rotate_left; focus (first | exact Nat.le_refl _ | omega | (simp; done) | (simp; omega))) | ((with_reducible refine Below.setCell ?_ ?_ _); rotate_left; focus (first | exact Nat.le_refl _ | omega | (simp; done) | (simp; omega))) | (with_reducible refine Below.drew ?_) | (with_reducible refine below_drewN ?_ _) | ((with_reducible refine below_via (by assumption) ?_ ?_); focus (first | exact Nat.le_refl _ | omega | (simp; done) | (simp; omega)))))
  clear hb1 H
  go_wp2_with fail
  (refine bodyPost_ret (v := .agg #[.string ⟨#[]⟩, .float .f64 b, .string ⟨#[]⟩, .slice none 0 0, .slice none 0 0, .bool false, .string ⟨#[]⟩, .int .u8 1, .pointer none, .pointer none]) ?_ rfl ?_; (focus (first | (simp [results, Tryz.results57, go_sem, hc1, hz1]; done) | (simp [results, Tryz.results57, go_sem]; done) | (simp [results, Tryz.results57, go_sem, *]; done))); exact ret_mk (by repeat (first | (with_reducible exact Below.refl _ _) | (with_reducible assumption) | ((with_reducible refine Below.alloc ?_ ?_ _); rotate_left; focus (first | exact Nat.le_refl _ | omega | (simp; done) | (simp; omega))) | ((with_reducible refine Below.setCell ?_ ?_ _); rotate_left; focus (first | exact Nat.le_refl _ | omega | (simp; done) | (simp; omega))) | (with_reducible refine Below.drew ?_) | (with_reducible refine below_drewN ?_ _) | ((with_reducible refine below_via (by assumption) ?_ ?_); focus (first | exact Nat.le_refl _ | omega | (simp; done) | (simp; omega))))))
end Go.Proofs.YtpahhejkpdkjmaaGreatDoor
