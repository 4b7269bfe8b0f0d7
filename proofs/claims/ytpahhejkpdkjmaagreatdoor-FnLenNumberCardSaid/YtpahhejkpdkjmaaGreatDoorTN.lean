/- The library's tables, read off what the row lists. -/
import Derived.Test.YtpahhejkpdkjmaaGreatDoorSK
import Derived.Test.YtpahhejkpdkjmaaGreatDoorRows
import Derived.ProofKit
import Derived.OpenShut
import Derived.LaidMore
import Derived.Lib.LaidU8
import Derived.Stop.Joined
set_option linter.unusedSimpArgs false
set_option linter.unusedVariables false
namespace Go.Proofs.YtpahhejkpdkjmaaGreatDoor
open Go.ChangeShapes Go.WideShapes Go.ChangeAt Go.RowKit
theorem rowsAt : ((List.range 7).all fun i => Go.Pinned.pow10Rows[i + 358]? == some (pmOf (i + 10), 0)) = true := by kernel_rfl
theorem rowAt (p : Nat) (h0 : 10 ≤ p) (h1 : p ≤ 16) : Go.Pinned.pow10Rows[p + 348]? = some (pmOf p, 0) := by
  have h := List.all_eq_true.1 rowsAt (p - 10) (by simp; omega)
  have e1 : p - 10 + 358 = p + 348 := by omega
  have e2 : p - 10 + 10 = p := by omega
  simpa [e1, e2] using h
theorem tab_of_laid {W : World} (h : laidMetH Tryz.prog Rows.fnLenNumberRow.laid W) : Lib.TabIs Tryz.prog W "internal/strconv.uint64pow10" .u64 Lib.pow10Tab := by
  rw [MakeChecks.laidMetH_plain _ _ _ (by kernel_rfl)] at h
  obtain ⟨g, t, cs, fuel, p, hg, ht, hv, hd⟩ := Lib.laidMet.reads h (.tail _ (.head _))
  obtain rfl := Option.some.inj ((show Tryz.prog.globalNamed "internal/strconv.uint64pow10" = some 3 by kernel_rfl).symm.trans hg)
  obtain rfl := Option.some.inj ((show (Tryz.prog.globals[3]?).map (·.type) = some 218 by kernel_rfl).symm.trans ht)
  have e : (Rows.laid_internal_strconv_uint64pow10 : DataW Unit) = Lib.tabData .u64 Lib.pow10Tab := by kernel_rfl
  rw [e] at hd
  have hc := Lib.cells_of_tab Tryz.underlying218 Tryz.underlying185 (by kernel_rfl) (by kernel_rfl) hd
  unfold Lib.TabIs
  rw [hv, ← hc]
theorem pow_of_laid {W : World} (h : laidMetH Tryz.prog Rows.fnLenNumberRow.laid W) : PowTab W := by
  rw [MakeChecks.laidMetH_plain _ _ _ (by kernel_rfl)] at h
  obtain ⟨g, t, cs, fuel, p, hg, ht, hv, hd⟩ := Lib.laidMet.reads h (.tail _ (.tail _ (.tail _ (.tail _ (.head _)))))
  obtain rfl := Option.some.inj ((show Tryz.prog.globalNamed "internal/strconv.pow10Tab" = some 4 by kernel_rfl).symm.trans hg)
  obtain rfl := Option.some.inj ((show (Tryz.prog.globals[4]?).map (·.type) = some 227 by kernel_rfl).symm.trans ht)
  obtain ⟨xs, m, _, ex, hlen, hl, hel⟩ := DataW.trod_array Tryz.underlying227 hd
  have c226 : Tryz.prog.cellsOf 226 = 2 := by kernel_rfl
  have c227 : Tryz.prog.cellsOf 227 = 1392 := by kernel_rfl
  have e3 : (xs.map (·.1)) = Go.Pinned.pow10Rows.map fun x => (DataW.agg [.lit (.int .u64 x.1), .lit (.int .u64 x.2)] : DataW Unit) := (DataW.agg.inj (Prod.mk.inj ex).1).symm
  have key : ∀ q, 10 ≤ q → q ≤ 16 → W.cell? ⟨4, (q + 348) * 2, none⟩ = some (.int .u64 (pmOf q)) ∧ W.cell? ⟨4, (q + 348) * 2 + 1, none⟩ = some (.int .u64 0) := by
    intro q h0 h1
    have hE := hel (q + 348) (by omega)
    rw [c226, List.getElem?_eq_getElem (by omega)] at hE
    have e4 : (xs.map (·.1))[q + 348]? = (Go.Pinned.pow10Rows.map fun x => (DataW.agg [.lit (.int .u64 x.1), .lit (.int .u64 x.2)] : DataW Unit))[q + 348]? := by rw [e3]
    rw [List.getElem?_map, List.getElem?_map, List.getElem?_eq_getElem (by omega : q + 348 < xs.length), rowAt q h0 h1] at e4
    simp only [Option.map_some, Option.some.injEq] at e4
    have hy : xs[q + 348]'(by omega) = (.agg ([((pmOf q : Nat) : Int), 0].map fun z => .lit (.int .u64 z)), (xs[q + 348]'(by omega)).2) := Prod.ext e4 rfl
    rw [hy] at hE
    have hc := Lib.ints_of_struct Tryz.underlying226 (fun i f hf => by
      match i, hf with
      | 0, hf => cases hf; exact ⟨Tryz.underlying185, rfl, by kernel_rfl⟩
      | 1, hf => cases hf; exact ⟨Tryz.underlying185, rfl, by kernel_rfl⟩
      | i + 2, hf => simp at hf) (by kernel_rfl) hE
    have g0 := congrArg (·[0]?) hc
    have g1 := congrArg (·[1]?) hc
    simp only [List.getElem?_take, List.getElem?_drop, List.map_cons, List.map_nil] at g0 g1
    refine ⟨?_, ?_⟩
    · rw [World.var?_cell hg hv]
      simpa using g0
    · rw [World.var?_cell hg hv]
      simpa using g1
  have k0 := (key 10 (by decide) (by decide)).1
  refine ⟨?_, key⟩
  unfold World.cell? at k0
  cases hx : W.heap[4]? with
  | none => simp [hx] at k0
  | some ob => exact (Array.getElem?_eq_some_iff.1 hx).1
theorem tabs_of_laid {W : World} (h : laidMetH Tryz.prog Rows.fnLenNumberRow.laid W) : Tabs W := ⟨pow_of_laid h, tab_of_laid h⟩
end Go.Proofs.YtpahhejkpdkjmaaGreatDoor
