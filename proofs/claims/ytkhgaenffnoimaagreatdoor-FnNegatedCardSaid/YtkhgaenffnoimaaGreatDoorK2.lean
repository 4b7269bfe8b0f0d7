/- shortFloat of a whole number. -/
import Derived.Test.YtkhgaenffnoimaaGreatDoorKS
import Derived.Test.YtkhgaenffnoimaaGreatDoorK1
import Derived.Test.YtkhgaenffnoimaaGreatDoorA0
import Derived.Deep.RegionWith
set_option linter.unusedSimpArgs false
set_option linter.unusedVariables false
namespace Go.Proofs.YtkhgaenffnoimaaGreatDoor
open Go.RowKit
attribute [local go_sem] run_store_float
def b01u (b : Bool) : Int := if b then 1 else 0
set_option maxRecDepth 100000 in
theorem c206 (b : Bool) (w : World) : Calls Tryz.prog 206 #[.bool b] w (fun e w' => e = .returned (.int .u64 (b01u b)) ∧ w' = w) := by
  unfold b01u
  cases b
  · go_enter Tryz.func206, Tryz.ntmps206
    go_wp2_with fail
    go_ret
    exact ⟨rfl, rfl⟩
  · go_enter Tryz.func206, Tryz.ntmps206
    go_wp2_with fail
    go_ret
    exact ⟨rfl, rfl⟩
theorem wrap_u64_small (n : Nat) (h : n < 18446744073709551616) : IntKind.u64.wrap (n : Int) = (n : Int) := by
  have e : (n : Int) % 2 ^ 64 = n := Int.emod_eq_of_lt (by omega) (by omega)
  simp only [IntKind.wrap, IntKind.bits, IntKind.signed, e]
  simp
theorem or_one_u64 (i : Nat) (h : i < 18446744073709551616) : bits BinOp.or IntKind.u64 (i : Int) 1 = ((i / 2 * 2 + 1 : Nat) : Int) := by
  show IntKind.u64.wrap ((BitVec.ofInt 64 (i : Int) ||| BitVec.ofInt 64 ((1 : Nat) : Int)).toNat : Int) = _
  rw [BitVec.toNat_or, ofInt_u64 i (by omega), ofInt_u64 1 (by omega), Lib.or_one_nat]
  exact wrap_u64_small _ (by omega)
theorem or_zero_u64 (i : Nat) (h : i < 18446744073709551616) : bits BinOp.or IntKind.u64 (i : Int) 0 = (i : Int) := by
  show IntKind.u64.wrap ((BitVec.ofInt 64 (i : Int) ||| BitVec.ofInt 64 ((0 : Nat) : Int)).toNat : Int) = _
  rw [BitVec.toNat_or, ofInt_u64 i (by omega), ofInt_u64 0 (by omega), Nat.or_zero]
  exact wrap_u64_small _ (by omega)
/-- What uscale gives: the floor, perhaps with the last bit set. -/
def UQ (q u : Nat) : Prop := u = q ∨ u = q / 2 * 2 + 1
theorem and63_fin : ∀ s : Fin 64, bits BinOp.and IntKind.i64 (s.val : Int) 63 = (s.val : Int) := by decide +kernel
theorem and63 (s : Nat) (h : s < 64) : bits BinOp.and IntKind.i64 (s : Int) 63 = (s : Int) := and63_fin ⟨s, h⟩
set_option maxRecDepth 100000 in
set_option maxHeartbeats 1000000 in
theorem c215 (x pm s : Nat) (b : Nat) (w : World) (hx : x < 18446744073709551616) (hpm : pm < 18446744073709551616) (hs : s < 64)
    (c0 : w.cell? ⟨b, 0, none⟩ = some (.int .u64 pm)) (c1 : w.cell? ⟨b, 1, none⟩ = some (.int .u64 0)) (c2 : w.cell? ⟨b, 2, none⟩ = some (.int .i64 s)) :
    Calls Tryz.prog 215 #[.int .u64 x, .pointer (some ⟨b, 0, none⟩)] w (fun e w' => ∃ u : Nat, e = .returned (.int .u64 u) ∧ UQ (x * pm / 18446744073709551616 / 2 ^ s) u ∧ ∃ n, w' = w.drewN n) := by
  have H1 := Lib.hid (Tryz.bits_Mul64 x pm hx hpm w)
  have h2 : Calls Tryz.prog 144 #[.int .u64 x, .int .u64 0] w (fun e w' => e = .returned (.tuple #[.int .u64 0, .int .u64 0]) ∧ w' = w) := by
    have := Tryz.bits_Mul64 x 0 hx (by omega) w
    simpa using this
  have H2 := Lib.hid h2
  clear h2
  have hhi : x * pm / 18446744073709551616 < 18446744073709551616 := by
    have := Nat.mul_lt_mul'' hx hpm
    omega
  have hmid : x * pm % 18446744073709551616 < 18446744073709551616 := Nat.mod_lt _ (by decide)
  generalize x * pm / 18446744073709551616 = hi at H1 hhi ⊢
  generalize x * pm % 18446744073709551616 = mid at H1 hmid
  have hqle : hi / 2 ^ s ≤ hi := Nat.div_le_self _ _
  have hor1 : bits BinOp.or IntKind.u64 ((hi : Int) / 2 ^ s) 1 = ((hi / 2 ^ s / 2 * 2 + 1 : Nat) : Int) := by
    have := or_one_u64 (hi / 2 ^ s) (by omega)
    simpa using this
  have hor0 : bits BinOp.or IntKind.u64 ((hi : Int) / 2 ^ s) 0 = ((hi / 2 ^ s : Nat) : Int) := by
    have := or_zero_u64 (hi / 2 ^ s) (by omega)
    simpa using this
  have h63 := and63 s hs
  have HA := Lib.hid hor1
  have HB := Lib.hid hor0
  clear hor1 hor0
  go_enter Tryz.func215, Tryz.ntmps215
  go_wp2_with fail
  refine H1.out.mono ?_
  rintro e w1 ⟨rfl, rfl⟩
  go_wp2_with fail
  · go_ret
    refine ⟨hi / 2 ^ s / 2 * 2 + 1, ?_, .inr rfl, 0, rfl⟩
    show Ending.returned (.int .u64 _) = _
    rw [HA.out]
  refine H2.out.mono ?_
  rintro e w2 ⟨rfl, rfl⟩
  have hz : b01u (decide ((mid : Int) < 0)) = 0 := by
    have : decide ((mid : Int) < 0) = false := by simp
    rw [this]; rfl
  have hwr : IntKind.u64.wrap (hi : Int) = (hi : Int) := wrap_u64_small hi hhi
  go_wp2_with (go_at_call 206; refine (c206 _ _).mono ?_; rintro e w3 ⟨rfl, rfl⟩)
  go_region_with (go_at_call 206; refine (c206 _ _).mono ?_; rintro e w4 ⟨rfl, rfl⟩)
  all_goals go_wp2_with fail
  all_goals go_ret
  all_goals
    refine ⟨bif decide (1 < IntKind.u64.wrap (mid : Int)) then hi / 2 ^ s / 2 * 2 + 1 else hi / 2 ^ s, ?_, ?_, 1, rfl⟩
    · show Ending.returned (.int .u64 (bits BinOp.or IntKind.u64 ((hi : Int) / 2 ^ s) (b01u (decide (1 < IntKind.u64.wrap (mid : Int)))))) = _
      cases decide (1 < IntKind.u64.wrap (mid : Int))
      · show Ending.returned (.int .u64 (bits BinOp.or IntKind.u64 _ 0)) = _
        rw [HB.out]
        rfl
      · show Ending.returned (.int .u64 (bits BinOp.or IntKind.u64 _ 1)) = _
        rw [HA.out]
        rfl
    · cases decide (1 < IntKind.u64.wrap (mid : Int))
      · exact .inl rfl
      · exact .inr rfl
end Go.Proofs.YtkhgaenffnoimaaGreatDoor
