/- Read of the reference. -/
import Derived.Test.YtpahhejkpdkjmaaGreatDoorA4
set_option linter.unusedSimpArgs false
set_option linter.unusedVariables false
namespace Go.Proofs.YtpahhejkpdkjmaaGreatDoor
open Go.RowKit
attribute [local go_sem] run_store_float

/-- A value without rows, of whose parts R holds. -/
def FV (R : Int → Int → Int → ByteArray → Prop) (v : Value) : Prop := ∃ (k n d : Int) (t : ByteArray), v = .agg #[.int .i64 k, .int .i64 n, .int .i64 d, .string t, .slice none 0 0] ∧ R k n d t
def OtherR (k n d : Int) (t : ByteArray) : Prop := (k = 6 ∧ n = 0 ∧ d = 0 ∧ t = ⟨#[]⟩) ∨ (k = 4 ∧ n = 0 ∧ d = 0 ∧ t = ⟨#[35, 86, 65, 76, 85, 69, 33]⟩)
def FracR (n0 d0 k n d : Int) (t : ByteArray) : Prop := (k = 6 ∧ n = 0 ∧ d = 0 ∧ t = ⟨#[]⟩) ∨ (k = 1 ∧ t = ⟨#[]⟩ ∧ FracP n0 d0 n d)
/-- What Read makes of a text: nothing that is said, an error, or a number of sixteenths. -/
def ReadR (k n d : Int) (t : ByteArray) : Prop := OtherR k n d t ∨ (k = 1 ∧ t = ⟨#[]⟩ ∧ Sixteen d ∧ -99999999999 ≤ n ∧ n ≤ 99999999999)
theorem f225 (s : ByteArray) (w : World) (hs : s.size ≤ 9223372036854775807) : Calls Tryz.prog 225 #[.string s] w (RetV w (FV OtherR)) :=
  (c225 s w hs).mono fun _ _ ⟨v, he, hv, hb⟩ => ⟨v, he, by
    rcases hv with rfl | rfl
    · exact ⟨_, _, _, _, rfl, .inl ⟨rfl, rfl, rfl, rfl⟩⟩
    · exact ⟨_, _, _, _, rfl, .inr ⟨rfl, rfl, rfl, rfl⟩⟩, hb⟩
theorem f27 (n d : Int) (w : World) (hd0 : 1 ≤ d) (hd1 : d ≤ 1048576) (hn0 : -1125899906842624 ≤ n) (hn1 : n ≤ 1125899906842624) : Calls Tryz.prog 27 #[.int .i64 n, .int .i64 d] w (RetV w (FV (FracR n d))) :=
  (c27 n d w hd0 hd1 hn0 hn1).mono fun _ _ ⟨v, he, hv, hb⟩ => ⟨v, he, by
    rcases hv with rfl | ⟨n', d', rfl, h⟩
    · exact ⟨_, _, _, _, rfl, .inl ⟨rfl, rfl, rfl, rfl⟩⟩
    · exact ⟨_, _, _, _, rfl, .inr ⟨rfl, rfl, h⟩⟩, hb⟩
theorem ReadR.of_other {k n d : Int} {t : ByteArray} (h : OtherR k n d t) : ReadR k n d t := .inl h
theorem ReadR.of_frac {n0 d0 k n d : Int} {t : ByteArray} (h : FracR n0 d0 k n d t) : ReadR k n d t := by
  rcases h with h | ⟨h1, h2, _, h3, h4, h5, _⟩
  · exact .inl (.inl h)
  · exact .inr ⟨h1, h2, h3, h4, h5⟩
/-- Where Read stands: the number so far, how many digits, the divisor. -/
def RdI (n m d : Int) : Prop := 0 ≤ m ∧ m ≤ 12 ∧ 0 ≤ n ∧ n < 10 ^ m.toNat ∧ 1 ≤ d ∧ d ≤ 10 ^ m.toNat
theorem RdI.start : RdI 0 0 1 := by unfold RdI; decide
theorem pow12 (m : Int) (h0 : 0 ≤ m) (h : m ≤ 12) : (10 : Int) ^ m.toNat ≤ 1000000000000 := by
  have : m.toNat ≤ 12 := by omega
  have := Int.ofNat_le.2 (Nat.pow_le_pow_right (show 10 > 0 by omega) this)
  simpa using this
theorem RdI.step {n m d c : Int} (h : RdI n m d) (hm : m < 12) (hc0 : 48 ≤ c) (hc1 : c ≤ 57) (point : Bool) : RdI (10 * n + (c - 48)) (m + 1) (if point then d * 10 else d) := by
  obtain ⟨h0, h1, h2, h3, h4, h5⟩ := h
  have e : (m + 1).toNat = m.toNat + 1 := by omega
  unfold RdI
  rw [e, Int.pow_succ]
  generalize (10 : Int) ^ m.toNat = p at *
  cases point <;> simp only [Bool.false_eq_true, if_false, if_true] <;> omega
theorem RdI.bounds {n m d : Int} (h : RdI n m d) : 0 ≤ m ∧ m ≤ 12 ∧ 0 ≤ n ∧ n ≤ 1000000000000 ∧ 1 ≤ d ∧ d ≤ 1000000000000 := by
  obtain ⟨h0, h1, h2, h3, h4, h5⟩ := h
  have := pow12 m h0 h1
  omega
set_option maxRecDepth 100000 in
set_option maxHeartbeats 8000000 in
theorem c216 (s : ByteArray) (w : World) (hs : s.size ≤ 9223372036854775807) : Calls Tryz.prog 216 #[.string s] w (RetV w (FV ReadR)) := by
  by_cases hm : ∃ h : 0 < s.size, ((s[0].toNat : Int) == 45) = true
  · obtain ⟨hp, hm⟩ := hm
    go_enter Tryz.func216, Tryz.ntmps216
    go_wp2_with fail
    go_loop [3, 5, 6, 7, 8] (fun at_ n many d point => ∃ (k : Nat) (x m y : Int) (b : Bool), k ≤ s.size ∧ at_ = .int .i64 k ∧ n = .int .i64 x ∧ many = .int .i64 m ∧ d = .int .i64 y ∧ point = .bool b ∧ RdI x m y) (fun i _ _ _ _ => s.size - (intOf i).toNat)
    case atStart => exact ⟨1, 0, 0, 1, false, by omega, rfl, rfl, rfl, rfl, rfl, RdI.start⟩
    case round =>
      obtain ⟨k, x, m, y, b, hk, rfl, rfl, rfl, rfl, rfl, hI⟩ := hrel
      obtain ⟨b0, b1, b2, b3, b4, b5⟩ := hI.bounds
      have HI := Lib.hid hI
      clear hI
      by_cases hlt : k < s.size
      · have hy := s[k].toNat_lt
        cases b
        all_goals
          go_wp2_with (go_at_call 225; refine (f225 _ _ hs).mono ?_; rintro e w1 ⟨_, rfl, ⟨k1, n1, d1, t1, rfl, hv⟩, hb1⟩; obtain ⟨hc1, hf1, hz1⟩ := bcell hb1; have hle1 := hb1.size; try have hs1 : w.heap.size < w1.heap.size := hz1 _ (by first | (simp; done) | (simp; omega) | omega); try have hs2 : w.heap.size + 1 < w1.heap.size := hz1 _ (by first | (simp; done) | (simp; omega) | omega); try have hs3 : w.heap.size + 1 + 1 < w1.heap.size := hz1 _ (by first | (simp; done) | (simp; omega) | omega))
        all_goals first
          | (go_round
             case rel => first | exact ⟨k + 1, _, _, _, _, by omega, by go_num, rfl, rfl, rfl, rfl, HI.out.step (by assumption) (by assumption) (by assumption) false⟩ | exact ⟨k + 1, _, _, _, _, by omega, by go_num, rfl, rfl, rfl, rfl, HI.out.step (by assumption) (by assumption) (by assumption) true⟩ | exact ⟨k + 1, _, _, _, _, by omega, by go_num, rfl, rfl, rfl, rfl, HI.out⟩
             case measure => simp [intOf]; omega)
          | (refine bodyPost_ret (v := .agg #[.int .i64 k1, .int .i64 n1, .int .i64 d1, .string t1, .slice none 0 0]) ?_ rfl ?_; (focus (first | (simp [results, Tryz.results216, go_sem, hc1, hz1]; done) | (simp [results, Tryz.results216, go_sem]; done) | (simp [results, Tryz.results216, go_sem, *]; done))); exact retV_mk _ ⟨_, _, _, _, rfl, ReadR.of_other hv⟩ (by repeat (first | (with_reducible exact Below.refl _ _) | (with_reducible assumption) | ((with_reducible refine Below.alloc ?_ ?_ _); rotate_left; focus (first | exact Nat.le_refl _ | omega | (simp; done) | (simp; omega))) | ((with_reducible refine Below.setCell ?_ ?_ _); rotate_left; focus (first | exact Nat.le_refl _ | omega | (simp; done) | (simp; omega))) | (with_reducible refine Below.drew ?_) | (with_reducible refine below_drewN ?_ _) | ((with_reducible refine below_via (by assumption) ?_ ?_); focus (first | exact Nat.le_refl _ | omega | (simp; done) | (simp; omega))))))
      · cases b
        all_goals
          go_wp2_with (first | (go_at_call 225; refine (f225 _ _ hs).mono ?_; rintro e w1 ⟨_, rfl, ⟨k1, n1, d1, t1, rfl, hv⟩, hb1⟩; obtain ⟨hc1, hf1, hz1⟩ := bcell hb1; have hle1 := hb1.size; try have hs1 : w.heap.size < w1.heap.size := hz1 _ (by first | (simp; done) | (simp; omega) | omega); try have hs2 : w.heap.size + 1 < w1.heap.size := hz1 _ (by first | (simp; done) | (simp; omega) | omega); try have hs3 : w.heap.size + 1 + 1 < w1.heap.size := hz1 _ (by first | (simp; done) | (simp; omega) | omega)) | (go_at_call 27; refine (f27 _ _ _ (by omega) (by omega) (by omega) (by omega)).mono ?_; rintro e w1 ⟨_, rfl, ⟨k1, n1, d1, t1, rfl, hv⟩, hb1⟩; obtain ⟨hc1, hf1, hz1⟩ := bcell hb1; have hle1 := hb1.size; try have hs1 : w.heap.size < w1.heap.size := hz1 _ (by first | (simp; done) | (simp; omega) | omega); try have hs2 : w.heap.size + 1 < w1.heap.size := hz1 _ (by first | (simp; done) | (simp; omega) | omega); try have hs3 : w.heap.size + 1 + 1 < w1.heap.size := hz1 _ (by first | (simp; done) | (simp; omega) | omega)))
        all_goals first
          | (refine bodyPost_ret (v := .agg #[.int .i64 k1, .int .i64 n1, .int .i64 d1, .string t1, .slice none 0 0]) ?_ rfl ?_; (focus (first | (simp [results, Tryz.results216, go_sem, hc1, hz1]; done) | (simp [results, Tryz.results216, go_sem]; done) | (simp [results, Tryz.results216, go_sem, *]; done))); exact retV_mk _ ⟨_, _, _, _, rfl, ReadR.of_other hv⟩ (by repeat (first | (with_reducible exact Below.refl _ _) | (with_reducible assumption) | ((with_reducible refine Below.alloc ?_ ?_ _); rotate_left; focus (first | exact Nat.le_refl _ | omega | (simp; done) | (simp; omega))) | ((with_reducible refine Below.setCell ?_ ?_ _); rotate_left; focus (first | exact Nat.le_refl _ | omega | (simp; done) | (simp; omega))) | (with_reducible refine Below.drew ?_) | (with_reducible refine below_drewN ?_ _) | ((with_reducible refine below_via (by assumption) ?_ ?_); focus (first | exact Nat.le_refl _ | omega | (simp; done) | (simp; omega))))))
          | (refine bodyPost_ret (v := .agg #[.int .i64 k1, .int .i64 n1, .int .i64 d1, .string t1, .slice none 0 0]) ?_ rfl ?_; (focus (first | (simp [results, Tryz.results216, go_sem, hc1, hz1]; done) | (simp [results, Tryz.results216, go_sem]; done) | (simp [results, Tryz.results216, go_sem, *]; done))); exact retV_mk _ ⟨_, _, _, _, rfl, ReadR.of_frac hv⟩ (by repeat (first | (with_reducible exact Below.refl _ _) | (with_reducible assumption) | ((with_reducible refine Below.alloc ?_ ?_ _); rotate_left; focus (first | exact Nat.le_refl _ | omega | (simp; done) | (simp; omega))) | ((with_reducible refine Below.setCell ?_ ?_ _); rotate_left; focus (first | exact Nat.le_refl _ | omega | (simp; done) | (simp; omega))) | (with_reducible refine Below.drew ?_) | (with_reducible refine below_drewN ?_ _) | ((with_reducible refine below_via (by assumption) ?_ ?_); focus (first | exact Nat.le_refl _ | omega | (simp; done) | (simp; omega))))))
  · by_cases hp : 0 < s.size
    · have hm' : ((s[0].toNat : Int) == 45) = false := by
        have h1 := fun h => hm ⟨hp, h⟩
        simpa using h1
      clear hm
      go_enter Tryz.func216, Tryz.ntmps216
      go_wp2_with fail
      go_loop [3, 5, 6, 7, 8] (fun at_ n many d point => ∃ (k : Nat) (x m y : Int) (b : Bool), k ≤ s.size ∧ at_ = .int .i64 k ∧ n = .int .i64 x ∧ many = .int .i64 m ∧ d = .int .i64 y ∧ point = .bool b ∧ RdI x m y) (fun i _ _ _ _ => s.size - (intOf i).toNat)
      case atStart => exact ⟨0, 0, 0, 1, false, by omega, rfl, rfl, rfl, rfl, rfl, RdI.start⟩
      case round =>
        obtain ⟨k, x, m, y, b, hk, rfl, rfl, rfl, rfl, rfl, hI⟩ := hrel
        obtain ⟨b0, b1, b2, b3, b4, b5⟩ := hI.bounds
        have HI := Lib.hid hI
        clear hI
        by_cases hlt : k < s.size
        · have hy := s[k].toNat_lt
          cases b
          all_goals
            go_wp2_with (go_at_call 225; refine (f225 _ _ hs).mono ?_; rintro e w1 ⟨_, rfl, ⟨k1, n1, d1, t1, rfl, hv⟩, hb1⟩; obtain ⟨hc1, hf1, hz1⟩ := bcell hb1; have hle1 := hb1.size; try have hs1 : w.heap.size < w1.heap.size := hz1 _ (by first | (simp; done) | (simp; omega) | omega); try have hs2 : w.heap.size + 1 < w1.heap.size := hz1 _ (by first | (simp; done) | (simp; omega) | omega); try have hs3 : w.heap.size + 1 + 1 < w1.heap.size := hz1 _ (by first | (simp; done) | (simp; omega) | omega))
          all_goals first
            | (go_round
               case rel => first | exact ⟨k + 1, _, _, _, _, by omega, by go_num, rfl, rfl, rfl, rfl, HI.out.step (by assumption) (by assumption) (by assumption) false⟩ | exact ⟨k + 1, _, _, _, _, by omega, by go_num, rfl, rfl, rfl, rfl, HI.out.step (by assumption) (by assumption) (by assumption) true⟩ | exact ⟨k + 1, _, _, _, _, by omega, by go_num, rfl, rfl, rfl, rfl, HI.out⟩
               case measure => simp [intOf]; omega)
            | (refine bodyPost_ret (v := .agg #[.int .i64 k1, .int .i64 n1, .int .i64 d1, .string t1, .slice none 0 0]) ?_ rfl ?_; (focus (first | (simp [results, Tryz.results216, go_sem, hc1, hz1]; done) | (simp [results, Tryz.results216, go_sem]; done) | (simp [results, Tryz.results216, go_sem, *]; done))); exact retV_mk _ ⟨_, _, _, _, rfl, ReadR.of_other hv⟩ (by repeat (first | (with_reducible exact Below.refl _ _) | (with_reducible assumption) | ((with_reducible refine Below.alloc ?_ ?_ _); rotate_left; focus (first | exact Nat.le_refl _ | omega | (simp; done) | (simp; omega))) | ((with_reducible refine Below.setCell ?_ ?_ _); rotate_left; focus (first | exact Nat.le_refl _ | omega | (simp; done) | (simp; omega))) | (with_reducible refine Below.drew ?_) | (with_reducible refine below_drewN ?_ _) | ((with_reducible refine below_via (by assumption) ?_ ?_); focus (first | exact Nat.le_refl _ | omega | (simp; done) | (simp; omega))))))
        · cases b
          all_goals
            go_wp2_with (first | (go_at_call 225; refine (f225 _ _ hs).mono ?_; rintro e w1 ⟨_, rfl, ⟨k1, n1, d1, t1, rfl, hv⟩, hb1⟩; obtain ⟨hc1, hf1, hz1⟩ := bcell hb1; have hle1 := hb1.size; try have hs1 : w.heap.size < w1.heap.size := hz1 _ (by first | (simp; done) | (simp; omega) | omega); try have hs2 : w.heap.size + 1 < w1.heap.size := hz1 _ (by first | (simp; done) | (simp; omega) | omega); try have hs3 : w.heap.size + 1 + 1 < w1.heap.size := hz1 _ (by first | (simp; done) | (simp; omega) | omega)) | (go_at_call 27; refine (f27 _ _ _ (by omega) (by omega) (by omega) (by omega)).mono ?_; rintro e w1 ⟨_, rfl, ⟨k1, n1, d1, t1, rfl, hv⟩, hb1⟩; obtain ⟨hc1, hf1, hz1⟩ := bcell hb1; have hle1 := hb1.size; try have hs1 : w.heap.size < w1.heap.size := hz1 _ (by first | (simp; done) | (simp; omega) | omega); try have hs2 : w.heap.size + 1 < w1.heap.size := hz1 _ (by first | (simp; done) | (simp; omega) | omega); try have hs3 : w.heap.size + 1 + 1 < w1.heap.size := hz1 _ (by first | (simp; done) | (simp; omega) | omega)))
          all_goals first
            | (refine bodyPost_ret (v := .agg #[.int .i64 k1, .int .i64 n1, .int .i64 d1, .string t1, .slice none 0 0]) ?_ rfl ?_; (focus (first | (simp [results, Tryz.results216, go_sem, hc1, hz1]; done) | (simp [results, Tryz.results216, go_sem]; done) | (simp [results, Tryz.results216, go_sem, *]; done))); exact retV_mk _ ⟨_, _, _, _, rfl, ReadR.of_other hv⟩ (by repeat (first | (with_reducible exact Below.refl _ _) | (with_reducible assumption) | ((with_reducible refine Below.alloc ?_ ?_ _); rotate_left; focus (first | exact Nat.le_refl _ | omega | (simp; done) | (simp; omega))) | ((with_reducible refine Below.setCell ?_ ?_ _); rotate_left; focus (first | exact Nat.le_refl _ | omega | (simp; done) | (simp; omega))) | (with_reducible refine Below.drew ?_) | (with_reducible refine below_drewN ?_ _) | ((with_reducible refine below_via (by assumption) ?_ ?_); focus (first | exact Nat.le_refl _ | omega | (simp; done) | (simp; omega))))))
            | (refine bodyPost_ret (v := .agg #[.int .i64 k1, .int .i64 n1, .int .i64 d1, .string t1, .slice none 0 0]) ?_ rfl ?_; (focus (first | (simp [results, Tryz.results216, go_sem, hc1, hz1]; done) | (simp [results, Tryz.results216, go_sem]; done) | (simp [results, Tryz.results216, go_sem, *]; done))); exact retV_mk _ ⟨_, _, _, _, rfl, ReadR.of_frac hv⟩ (by repeat (first | (with_reducible exact Below.refl _ _) | (with_reducible assumption) | ((with_reducible refine Below.alloc ?_ ?_ _); rotate_left; focus (first | exact Nat.le_refl _ | omega | (simp; done) | (simp; omega))) | ((with_reducible refine Below.setCell ?_ ?_ _); rotate_left; focus (first | exact Nat.le_refl _ | omega | (simp; done) | (simp; omega))) | (with_reducible refine Below.drew ?_) | (with_reducible refine below_drewN ?_ _) | ((with_reducible refine below_via (by assumption) ?_ ?_); focus (first | exact Nat.le_refl _ | omega | (simp; done) | (simp; omega))))))
    · clear hm
      go_enter Tryz.func216, Tryz.ntmps216
      go_wp2_with fail
      go_loop [3, 5, 6, 7, 8] (fun at_ n many d point => ∃ (k : Nat) (x m y : Int) (b : Bool), k ≤ s.size ∧ at_ = .int .i64 k ∧ n = .int .i64 x ∧ many = .int .i64 m ∧ d = .int .i64 y ∧ point = .bool b ∧ RdI x m y) (fun i _ _ _ _ => s.size - (intOf i).toNat)
      case atStart => exact ⟨0, 0, 0, 1, false, by omega, rfl, rfl, rfl, rfl, rfl, RdI.start⟩
      case round =>
        obtain ⟨k, x, m, y, b, hk, rfl, rfl, rfl, rfl, rfl, hI⟩ := hrel
        obtain ⟨b0, b1, b2, b3, b4, b5⟩ := hI.bounds
        have HI := Lib.hid hI
        clear hI
        by_cases hlt : k < s.size
        · have hy := s[k].toNat_lt
          cases b
          all_goals
            go_wp2_with (go_at_call 225; refine (f225 _ _ hs).mono ?_; rintro e w1 ⟨_, rfl, ⟨k1, n1, d1, t1, rfl, hv⟩, hb1⟩; obtain ⟨hc1, hf1, hz1⟩ := bcell hb1; have hle1 := hb1.size; try have hs1 : w.heap.size < w1.heap.size := hz1 _ (by first | (simp; done) | (simp; omega) | omega); try have hs2 : w.heap.size + 1 < w1.heap.size := hz1 _ (by first | (simp; done) | (simp; omega) | omega); try have hs3 : w.heap.size + 1 + 1 < w1.heap.size := hz1 _ (by first | (simp; done) | (simp; omega) | omega))
          all_goals first
            | (go_round
               case rel => first | exact ⟨k + 1, _, _, _, _, by omega, by go_num, rfl, rfl, rfl, rfl, HI.out.step (by assumption) (by assumption) (by assumption) false⟩ | exact ⟨k + 1, _, _, _, _, by omega, by go_num, rfl, rfl, rfl, rfl, HI.out.step (by assumption) (by assumption) (by assumption) true⟩ | exact ⟨k + 1, _, _, _, _, by omega, by go_num, rfl, rfl, rfl, rfl, HI.out⟩
               case measure => simp [intOf]; omega)
            | (refine bodyPost_ret (v := .agg #[.int .i64 k1, .int .i64 n1, .int .i64 d1, .string t1, .slice none 0 0]) ?_ rfl ?_; (focus (first | (simp [results, Tryz.results216, go_sem, hc1, hz1]; done) | (simp [results, Tryz.results216, go_sem]; done) | (simp [results, Tryz.results216, go_sem, *]; done))); exact retV_mk _ ⟨_, _, _, _, rfl, ReadR.of_other hv⟩ (by repeat (first | (with_reducible exact Below.refl _ _) | (with_reducible assumption) | ((with_reducible refine Below.alloc ?_ ?_ _); rotate_left; focus (first | exact Nat.le_refl _ | omega | (simp; done) | (simp; omega))) | ((with_reducible refine Below.setCell ?_ ?_ _); rotate_left; focus (first | exact Nat.le_refl _ | omega | (simp; done) | (simp; omega))) | (with_reducible refine Below.drew ?_) | (with_reducible refine below_drewN ?_ _) | ((with_reducible refine below_via (by assumption) ?_ ?_); focus (first | exact Nat.le_refl _ | omega | (simp; done) | (simp; omega))))))
        · cases b
          all_goals
            go_wp2_with (first | (go_at_call 225; refine (f225 _ _ hs).mono ?_; rintro e w1 ⟨_, rfl, ⟨k1, n1, d1, t1, rfl, hv⟩, hb1⟩; obtain ⟨hc1, hf1, hz1⟩ := bcell hb1; have hle1 := hb1.size; try have hs1 : w.heap.size < w1.heap.size := hz1 _ (by first | (simp; done) | (simp; omega) | omega); try have hs2 : w.heap.size + 1 < w1.heap.size := hz1 _ (by first | (simp; done) | (simp; omega) | omega); try have hs3 : w.heap.size + 1 + 1 < w1.heap.size := hz1 _ (by first | (simp; done) | (simp; omega) | omega)) | (go_at_call 27; refine (f27 _ _ _ (by omega) (by omega) (by omega) (by omega)).mono ?_; rintro e w1 ⟨_, rfl, ⟨k1, n1, d1, t1, rfl, hv⟩, hb1⟩; obtain ⟨hc1, hf1, hz1⟩ := bcell hb1; have hle1 := hb1.size; try have hs1 : w.heap.size < w1.heap.size := hz1 _ (by first | (simp; done) | (simp; omega) | omega); try have hs2 : w.heap.size + 1 < w1.heap.size := hz1 _ (by first | (simp; done) | (simp; omega) | omega); try have hs3 : w.heap.size + 1 + 1 < w1.heap.size := hz1 _ (by first | (simp; done) | (simp; omega) | omega)))
          all_goals first
            | (refine bodyPost_ret (v := .agg #[.int .i64 k1, .int .i64 n1, .int .i64 d1, .string t1, .slice none 0 0]) ?_ rfl ?_; (focus (first | (simp [results, Tryz.results216, go_sem, hc1, hz1]; done) | (simp [results, Tryz.results216, go_sem]; done) | (simp [results, Tryz.results216, go_sem, *]; done))); exact retV_mk _ ⟨_, _, _, _, rfl, ReadR.of_other hv⟩ (by repeat (first | (with_reducible exact Below.refl _ _) | (with_reducible assumption) | ((with_reducible refine Below.alloc ?_ ?_ _); rotate_left; focus (first | exact Nat.le_refl _ | omega | (simp; done) | (simp; omega))) | ((with_reducible refine Below.setCell ?_ ?_ _); rotate_left; focus (first | exact Nat.le_refl _ | omega | (simp; done) | (simp; omega))) | (with_reducible refine Below.drew ?_) | (with_reducible refine below_drewN ?_ _) | ((with_reducible refine below_via (by assumption) ?_ ?_); focus (first | exact Nat.le_refl _ | omega | (simp; done) | (simp; omega))))))
            | (refine bodyPost_ret (v := .agg #[.int .i64 k1, .int .i64 n1, .int .i64 d1, .string t1, .slice none 0 0]) ?_ rfl ?_; (focus (first | (simp [results, Tryz.results216, go_sem, hc1, hz1]; done) | (simp [results, Tryz.results216, go_sem]; done) | (simp [results, Tryz.results216, go_sem, *]; done))); exact retV_mk _ ⟨_, _, _, _, rfl, ReadR.of_frac hv⟩ (by repeat (first | (with_reducible exact Below.refl _ _) | (with_reducible assumption) | ((with_reducible refine Below.alloc ?_ ?_ _); rotate_left; focus (first | exact Nat.le_refl _ | omega | (simp; done) | (simp; omega))) | ((with_reducible refine Below.setCell ?_ ?_ _); rotate_left; focus (first | exact Nat.le_refl _ | omega | (simp; done) | (simp; omega))) | (with_reducible refine Below.drew ?_) | (with_reducible refine below_drewN ?_ _) | ((with_reducible refine below_via (by assumption) ?_ ?_); focus (first | exact Nat.le_refl _ | omega | (simp; done) | (simp; omega))))))
end Go.Proofs.YtpahhejkpdkjmaaGreatDoor
