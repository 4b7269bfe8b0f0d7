/- The library's tables that the bases read, off what the rows list. -/
import Derived.Test.YtkhgaenffnoimaaGreatDoorN3
import Derived.Test.YtkhgaenffnoimaaGreatDoorRows
import Derived.ProofKit
import Derived.OpenShut
import Derived.LaidMore
import Derived.Lib.LaidU8
import Derived.Stop.Joined
set_option linter.unusedSimpArgs false
set_option linter.unusedVariables false
namespace Go.Proofs.YtkhgaenffnoimaaGreatDoor
open Go.ChangeShapes Go.WideShapes Go.ChangeAt Go.RowKit
/-- The 64 numbers of math/bits.deBruijn64tab. -/
def dbs : List Int := [0, 1, 56, 2, 57, 49, 28, 3, 61, 58, 42, 50, 38, 29, 17, 4, 62, 47, 59, 36, 45, 43, 51, 22, 53, 39, 33, 30, 24, 18, 12, 5, 63, 55, 48, 27, 60, 41, 37, 16, 46, 35, 44, 21, 52, 32, 23, 11, 54, 26, 40, 15, 34, 20, 31, 10, 25, 14, 19, 9, 13, 8, 7, 6]
theorem dbs_at : ((List.range 5).all fun i => dbs[2 ^ (i + 1) * 285870213051353865 % 18446744073709551616 / 288230376151711744]? == some ((i + 1 : Nat) : Int)) = true := by decide +kernel
theorem tab_of_laid {W : World} (h : laidMetH Tryz.prog Rows.fnBaseDecimalRow.laid W) : Tab W ∧ 15 ≤ W.heap.size := by
  rw [MakeChecks.laidMetH_plain _ _ _ (by kernel_rfl)] at h
  have key : DB W := by
    obtain ⟨g, t, cs, fuel, p, hg, ht, hv, hd⟩ := Lib.laidMet.reads h (.tail _ (.head _))
    obtain rfl := Option.some.inj ((show Tryz.prog.globalNamed "math/bits.deBruijn64tab" = some 14 by kernel_rfl).symm.trans hg)
    obtain rfl := Option.some.inj ((show (Tryz.prog.globals[14]?).map (·.type) = some 285 by kernel_rfl).symm.trans ht)
    have e : (Rows.laid_math_bits_deBruijn64tab : DataW Unit) = Lib.tabData .u8 dbs := by kernel_rfl
    rw [e] at hd
    have hc := Lib.cells_of_tab Tryz.underlying285 Tryz.underlying5 (by kernel_rfl) (by kernel_rfl) hd
    have hcell : ∀ s : Nat, 1 ≤ s → s ≤ 5 → W.cell? ⟨14, 2 ^ s * 285870213051353865 % 18446744073709551616 / 288230376151711744, none⟩ = some (.int .u8 (s : Int)) := by
      intro s h0 h1
      have h2 := List.all_eq_true.1 dbs_at (s - 1) (by simp; omega)
      have e1 : s - 1 + 1 = s := by omega
      rw [e1] at h2
      rw [World.var?_cell hg hv, ← Array.getElem?_toList, hc, List.getElem?_map, eq_of_beq h2]
      rfl
    refine ⟨?_, hcell⟩
    have k0 := hcell 1 (by decide) (by decide)
    unfold World.cell? at k0
    cases hx : W.heap[14]? with
    | none => simp [hx] at k0
    | some ob => exact (Array.getElem?_eq_some_iff.1 hx).1
  refine ⟨⟨key, ?_⟩, key.1⟩
  obtain ⟨g, t, cs, fuel, p, hg, ht, hv, hd⟩ := Lib.laidMet.reads h (.tail _ (.tail _ (.tail _ (.tail _ (.tail _ (.tail _ (.tail _ (.tail _ (.head _)))))))))
  obtain rfl := Option.some.inj ((show Tryz.prog.globalNamed "internal/strconv.uint64pow10" = some 3 by kernel_rfl).symm.trans hg)
  obtain rfl := Option.some.inj ((show (Tryz.prog.globals[3]?).map (·.type) = some 200 by kernel_rfl).symm.trans ht)
  have e : (Rows.laid_internal_strconv_uint64pow10 : DataW Unit) = Lib.tabData .u64 Lib.pow10Tab := by kernel_rfl
  rw [e] at hd
  have hc := Lib.cells_of_tab Tryz.underlying200 Tryz.underlying157 (by kernel_rfl) (by kernel_rfl) hd
  unfold Lib.TabIs
  rw [hv, ← hc]
theorem tab_of_laidD {W : World} (h : laidMetH Tryz.prog Rows.fnDecBaseRow.laid W) : Tab W ∧ 15 ≤ W.heap.size :=
  tab_of_laid (show laidMetH Tryz.prog Rows.fnBaseDecimalRow.laid W from h)
theorem int64_of_wf {n : Int} (h : (Lit.int .i64 n).wf = true) : -9223372036854775808 ≤ n ∧ n ≤ 9223372036854775807 := by
  have h2 : decide (IntKind.i64.min ≤ n) && decide (n ≤ IntKind.i64.max) := h
  rw [Bool.and_eq_true, decide_eq_true_eq, decide_eq_true_eq] at h2
  exact h2
end Go.Proofs.YtkhgaenffnoimaaGreatDoor
