/- dec2x of the implementation. -/
import Derived.Test.YtkhgaenffnoimaaGreatDoorNE
import Derived.RegionTactic
import Derived.ChangeAlike
set_option linter.unusedSimpArgs false
set_option linter.unusedVariables false
namespace Go.Proofs.YtkhgaenffnoimaaGreatDoor
open Go.RowKit FL
attribute [local go_sem] run_store_float as64
attribute [local go_sem] mkA mkC inA0 inA1 inA2 inA3 inA4 inA5 inA6 inA7 inA8 inB0 inB1 inB2 inB3 inB4 inB5 inB6 inB7 inB8 inC0 inC1 inC2 inC3 inC4 inC5 inC6 inC7 inC8
theorem maps3 (Y : World) (o oA oB oC : Obj) : ((((Y.alloc o).alloc oA).alloc oB).alloc oC).heap[Y.heap.size + 1]? = some oA ∧ ((((Y.alloc o).alloc oA).alloc oB).alloc oC).heap[Y.heap.size + 1 + 1]? = some oB ∧ ((((Y.alloc o).alloc oA).alloc oB).alloc oC).heap[Y.heap.size + 1 + 1 + 1]? = some oC := by
  have s0 : (Y.alloc o).heap.size = Y.heap.size + 1 := by simp
  have s1 : ((Y.alloc o).alloc oA).heap.size = Y.heap.size + 1 + 1 := by simp
  have s2 : (((Y.alloc o).alloc oA).alloc oB).heap.size = Y.heap.size + 1 + 1 + 1 := by simp
  refine ⟨?_, ?_, ?_⟩
  · rw [Below.heap_alloc _ _ _ (by omega), Below.heap_alloc _ _ _ (by omega), ← s0]
    exact heap_alloc_new _ _
  · rw [Below.heap_alloc _ _ _ (by omega), ← s1]
    exact heap_alloc_new _ _
  · rw [← s2]
    exact heap_alloc_new _ _
theorem c142 (b n : Nat) (w : World) (h0 : 2 ≤ b) (h1 : b ≤ 36) (h10 : b ≠ 10) (hn : n ≤ 99999999999) (hT : DB w) :
    Calls Tryz.prog 142 #[.slice none 0 0, .int .u64 n, .int .i64 b, .bool false, .bool false] w (Ret w (.tuple #[.slice none 0 0, .string (lowT b n)])) := by
  by_cases hp : isP2 b = true
  · have hb5 : b = 2 ^ 1 ∨ b = 2 ^ 2 ∨ b = 2 ^ 3 ∨ b = 2 ^ 4 ∨ b = 2 ^ 5 := by
      unfold isP2 at hp
      simp only [Bool.or_eq_true, beq_iff_eq] at hp
      omega
    rcases hb5 with h | h | h | h | h
    · exact c142P b 1 n w (by omega) (by omega) h hn hT
    · exact c142P b 2 n w (by omega) (by omega) h hn hT
    · exact c142P b 3 n w (by omega) (by omega) h hn hT
    · exact c142P b 4 n w (by omega) (by omega) h hn hT
    · exact c142P b 5 n w (by omega) (by omega) h hn hT
  · exact c142G b n w h0 h1 h10 (by simpa using hp) hn
set_option maxRecDepth 100000 in
set_option maxHeartbeats 1000000 in
theorem c153 (b n : Nat) (w : World) (h0 : 2 ≤ b) (h1 : b ≤ 36) (h10 : b ≠ 10) (hn : n ≤ 99999999999) (hT : DB w) :
    Calls Tryz.prog 153 #[.int .u64 n, .int .i64 b] w (Ret w (.string (lowT b n))) := by
  have H := Lib.hid (c142 b n w h0 h1 h10 hn hT)
  have h10' : ((b : Int) == 10) = false := by
    have : ¬ (b : Int) = 10 := by omega
    simpa using this
  clear hT
  go_enter Tryz.func153, Tryz.ntmps153
  go_wp2_with fail
  refine H.out.mono ?_
  rintro e w1 ⟨rfl, hb1⟩
  go_wp2_with fail
  go_ret
  exact ret_mk hb1
set_option maxRecDepth 100000 in
set_option maxHeartbeats 1000000 in
theorem c123 (b n : Nat) (w : World) (h0 : 2 ≤ b) (h1 : b ≤ 36) (h10 : b ≠ 10) (hn : n ≤ 99999999999) (hT : DB w) :
    Calls Tryz.prog 123 #[.int .u64 n, .int .i64 b] w (Ret w (.string (lowT b n))) := by
  have H := Lib.hid (c153 b n w h0 h1 h10 hn hT)
  clear hT
  go_enter Tryz.func123, Tryz.ntmps123
  go_wp2_with fail
  refine H.out.mono ?_
  rintro e w1 ⟨rfl, hb1⟩
  go_wp2_with fail
  go_ret
  exact ret_mk hb1
set_option maxRecDepth 100000 in
set_option maxHeartbeats 1000000 in
theorem c85 (nm : ByteArray) (b hi lo iA iB iC n L x : Nat) (p : Value) (w : World) (hn : n ≤ 511) (h0 : 2 ≤ b) (h1 : b ≤ 36) (h10 : b ≠ 10) (hT : Tab w) (hT4 : 15 ≤ w.heap.size)
    (fA : Instr.findNow .string (.string nm) (mA 9).toList 0 = some (some (iA, .float .f64 hi))) (fB : Instr.findNow .string (.string nm) (mB 9).toList 0 = some (some (iB, .float .f64 lo))) (fC : Instr.findNow .string (.string nm) (mC 9).toList 0 = some (some (iC, .int .i64 b)))
    (q1 : (FloatKind.f64.format.order (floatOfInt FloatKind.f64 (n : Int)) lo == some Ordering.lt) = false) (q2 : (FloatKind.f64.format.order (floatOfInt FloatKind.f64 (n : Int)) hi == some Ordering.gt) = false) (q3 : (FloatKind.f64.format.order (floatOfInt FloatKind.f64 (n : Int)) 0 == some Ordering.lt) = false)
    (hd : DL w L [x] [.iface 68 (fN (floatOfInt FloatKind.f64 (n : Int)))]) :
    Calls Tryz.prog 85 #[p, .string nm, .pointer (some ⟨L, 0, none⟩)] w (Ret w (fS (upT b n))) := by
  have HD := Lib.hid hd
  have H71n : Hid (∀ W, Calls Tryz.prog 71 #[.agg #[.string ⟨#[]⟩, .float .f64 (floatOfInt FloatKind.f64 (n : Int)), .string ⟨#[]⟩, .slice none 0 0, .slice none 0 0, .bool false, .string ⟨#[]⟩, .int .u8 1, .pointer none, .pointer none]] W (Ret W (.agg #[.string ⟨#[]⟩, .float .f64 (floatOfInt FloatKind.f64 (n : Int)), .string ⟨#[]⟩, .slice none 0 0, .slice none 0 0, .bool false, .string ⟨#[]⟩, .int .u8 1, .pointer none, .pointer none]))) := Lib.hid fun W => c71N _ W (foi_ok _ (by omega))
  have hcn := conv_foi 2 under2 (n : Int) (by omega)
  obtain ⟨hx1, -, -, -, hx5, -⟩ := hd.el 0 x rfl
  have ex : w.cell? ⟨x, 3, none⟩ = some (.iface 68 (.agg #[.string ⟨#[]⟩, .float .f64 (floatOfInt FloatKind.f64 (n : Int)), .string ⟨#[]⟩, .slice none 0 0, .slice none 0 0, .bool false, .string ⟨#[]⟩, .int .u8 1, .pointer none, .pointer none])) := hx5
  have HT := Lib.hid hT
  have hwn : IntKind.u64.wrap (n : Int) = (n : Int) := wrap_u64_nat n (by omega)
  have FA := Lib.hid fA
  have FB := Lib.hid fB
  have FC := Lib.hid fC
  have H123 := Lib.hid (fun W (h : DB W) => c123 b n W h0 h1 h10 (by omega) h)
  have H82 := Lib.hid (fun W => c82 b n W h0 h1)
  clear hd hx5 hT fA fB fC h0 h1 h10 hn
  generalize floatOfInt FloatKind.f64 (n : Int) = fn at *
  go_enter Tryz.func85, Tryz.ntmps85
  go_wp2_with fail
  have hbA : Below w.heap.size w (w.alloc (.cells #[.string ⟨#[]⟩, .float .f64 0, .string ⟨#[]⟩, .slice none 0 0, .slice none 0 0, .bool false, .string ⟨#[]⟩, .int .u8 0, .pointer none, .pointer none] 68)) := (by repeat (first | (with_reducible exact Below.refl _ _) | (with_reducible assumption) | ((with_reducible refine Below.alloc ?_ ?_ _); rotate_left; focus (first | exact Nat.le_refl _ | omega | (simp; done) | (simp; omega))) | ((with_reducible refine Below.setCell ?_ ?_ _); rotate_left; focus (first | exact Nat.le_refl _ | omega | (simp; done) | (simp; omega))) | (with_reducible refine Below.drew ?_) | (with_reducible refine below_drewN ?_ _) | ((with_reducible refine below_via (by assumption) ?_ ?_); focus (first | exact Nat.le_refl _ | omega | (simp; done) | (simp; omega)))))
  have HZ := Lib.hid (z64_new w 68)
  generalize (w.alloc (.cells #[.string ⟨#[]⟩, .float .f64 0, .string ⟨#[]⟩, .slice none 0 0, .slice none 0 0, .bool false, .string ⟨#[]⟩, .int .u8 0, .pointer none, .pointer none] 68)) = W1 at hbA HZ ⊢
  refine (c70 L [x] _ W1 (HD.out.below hbA)).mono ?_
  rintro e w1 ⟨rfl, rfl⟩
  go_wp2_with fail
  refine (c70 L [x] _ w1 (HD.out.below hbA)).mono ?_
  rintro e w2 ⟨rfl, rfl⟩
  go_wp2_with fail
  refine (c59 L [x] _ w2 (HD.out.below hbA) (by simp)).mono ?_
  rintro e w3 ⟨rfl, rfl⟩
  have ex3 := (hbA.cell (p := ⟨x, 3, none⟩) hx1).trans ex
  have hx3 : x < w3.heap.size := Nat.lt_of_lt_of_le hx1 hbA.size
  clear ex
  go_wp2_with fail
  refine (H71n.out w3).mono ?_
  rintro e w4 ⟨rfl, hb4⟩
  have hbw4 : Below w.heap.size w w4 := keepS hb4 hbA
  have HZ4 := Lib.hid (HZ.out.below hb4)
  clear ex3 hb4
  go_wp2_with fail
  have hba : Below w4.heap.size w4 ((((w4.alloc (.cells #[.string ⟨#[]⟩, .float .f64 fn, .string ⟨#[]⟩, .slice none 0 0, .slice none 0 0, .bool false, .string ⟨#[]⟩, .int .u8 1, .pointer none, .pointer none] 68)).alloc (.map (mA 9) 9)).alloc (.map (mB 9) 9)).alloc (.map (mC 9) 9)) := (by repeat (first | (with_reducible exact Below.refl _ _) | (with_reducible assumption) | ((with_reducible refine Below.alloc ?_ ?_ _); rotate_left; focus (first | exact Nat.le_refl _ | omega | (simp; done) | (simp; omega))) | ((with_reducible refine Below.setCell ?_ ?_ _); rotate_left; focus (first | exact Nat.le_refl _ | omega | (simp; done) | (simp; omega))) | (with_reducible refine Below.drew ?_) | (with_reducible refine below_drewN ?_ _) | ((with_reducible refine below_via (by assumption) ?_ ?_); focus (first | exact Nat.le_refl _ | omega | (simp; done) | (simp; omega)))))
  have hf1 : ((((w4.alloc (.cells #[.string ⟨#[]⟩, .float .f64 fn, .string ⟨#[]⟩, .slice none 0 0, .slice none 0 0, .bool false, .string ⟨#[]⟩, .int .u8 1, .pointer none, .pointer none] 68)).alloc (.map (mA 9) 9)).alloc (.map (mB 9) 9)).alloc (.map (mC 9) 9)).cell? ⟨w4.heap.size, 1, none⟩ = some (.float .f64 fn) := by simp [go_sem]
  have hls : w4.heap.size < ((((w4.alloc (.cells #[.string ⟨#[]⟩, .float .f64 fn, .string ⟨#[]⟩, .slice none 0 0, .slice none 0 0, .bool false, .string ⟨#[]⟩, .int .u8 1, .pointer none, .pointer none] 68)).alloc (.map (mA 9) 9)).alloc (.map (mB 9) 9)).alloc (.map (mC 9) 9)).heap.size := by simp; omega
  obtain ⟨mpA, mpB, mpC⟩ := maps3 w4 (.cells #[.string ⟨#[]⟩, .float .f64 fn, .string ⟨#[]⟩, .slice none 0 0, .slice none 0 0, .bool false, .string ⟨#[]⟩, .int .u8 1, .pointer none, .pointer none] 68) (.map (mA 9) 9) (.map (mB 9) 9) (.map (mC 9) 9)
  generalize ((((w4.alloc (.cells #[.string ⟨#[]⟩, .float .f64 fn, .string ⟨#[]⟩, .slice none 0 0, .slice none 0 0, .bool false, .string ⟨#[]⟩, .int .u8 1, .pointer none, .pointer none] 68)).alloc (.map (mA 9) 9)).alloc (.map (mB 9) 9)).alloc (.map (mC 9) 9)) = W6 at hba hf1 hls mpA mpB mpC ⊢
  have lA := look_at W6.drew 154 24 under154 _ _ _ nm iA _ mpA FA.out
  have lB := look_at W6.drew 154 24 under154 _ _ _ nm iB _ mpB FB.out
  have lC := look_at W6.drew 155 3 under155 _ _ _ nm iC _ mpC FC.out
  have hbw6 : Below w.heap.size w W6.drew := Below.drew (keepS hba hbw4)
  have HZ6 : Hid (Z64 W6.drew w.heap.size) := Lib.hid (HZ4.out.below (Below.drew hba))
  have hf1d : W6.drew.cell? ⟨w4.heap.size, 1, none⟩ = some (.float .f64 fn) := hf1
  have hlsd : w4.heap.size < W6.drew.heap.size := hls
  clear mpA mpB mpC hba hf1 hls
  go_region
  all_goals go_wp2_with fail
  all_goals
    refine (H123.out W6.drew (HT.out.below hbw6 hT4).1).mono ?_
    rintro e w7 ⟨rfl, hb7⟩
    have hbw7 : Below w.heap.size w w7 := keepS hb7 hbw6
    have HZ7 := Lib.hid (HZ6.out.below hb7)
    have hf7 := (hb7.cell (p := ⟨w4.heap.size, 1, none⟩) hlsd).trans hf1d
    have hl7 : w4.heap.size < w7.heap.size := Nat.lt_of_lt_of_le hlsd hb7.size
    clear hb7 hf1d lA lB lC
  all_goals go_wp2_with fail
  all_goals
    refine (c70 L [x] _ w7 (HD.out.below hbw7)).mono ?_
    rintro e w8 ⟨rfl, rfl⟩
  all_goals go_wp2_with fail
  all_goals
    refine (H82.out w8).mono ?_
    rintro e w9 ⟨rfl, hb9⟩
    have hbw9 : Below w.heap.size w w9 := keepS hb9 hbw7
    have HZ9 := Lib.hid (HZ7.out.below hb9)
  all_goals go_wp2_with fail
  all_goals
    refine (c81u (upT b n) w9).mono ?_
    rintro e w10 ⟨rfl, hb10⟩
    have hbw10 : Below w.heap.size w w10 := keepS hb10 hbw9
    obtain ⟨zl, z0, z1, z2, z3, z4, z5, z6, z7, z8, z9, zf⟩ := HZ9.out.below hb10
  all_goals go_wp2_with fail
  all_goals (refine bodyPost_ret (v := .agg #[.string ⟨#[]⟩, .float .f64 0, .string (upT b n), .slice none 0 0, .slice none 0 0, .bool false, .string ⟨#[]⟩, .int .u8 2, .pointer none, .pointer none]) ?_ rfl ?_; (focus (first | (simp [results, Tryz.results85, go_sem, hc1, hz1]; done) | (simp [results, Tryz.results85, go_sem]; done) | (simp [results, Tryz.results85, go_sem, *]; done))); exact ret_mk (by repeat (first | (with_reducible exact Below.refl _ _) | (with_reducible assumption) | ((with_reducible refine Below.alloc ?_ ?_ _); rotate_left; focus (first | exact Nat.le_refl _ | omega | (simp; done) | (simp; omega))) | ((with_reducible refine Below.setCell ?_ ?_ _); rotate_left; focus (first | exact Nat.le_refl _ | omega | (simp; done) | (simp; omega))) | (with_reducible refine Below.drew ?_) | (with_reducible refine below_drewN ?_ _) | ((with_reducible refine below_via (by assumption) ?_ ?_); focus (first | exact Nat.le_refl _ | omega | (simp; done) | (simp; omega))))))
end Go.Proofs.YtkhgaenffnoimaaGreatDoor
