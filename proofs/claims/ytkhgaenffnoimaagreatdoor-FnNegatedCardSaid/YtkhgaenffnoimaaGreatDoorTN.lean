/- The library's tables and variables that numbers' texts and readers ask for, off what the row lists. -/
import Derived.Test.YtkhgaenffnoimaaGreatDoorKA
import Derived.Test.YtkhgaenffnoimaaGreatDoorKD
import Derived.Test.YtkhgaenffnoimaaGreatDoorRows
import Derived.ProofKit
import Derived.OpenShut
import Derived.LaidMore
import Derived.Lib.LaidU8
import Derived.Stop.Joined
set_option linter.unusedSimpArgs false
set_option linter.unusedVariables false
namespace Go.Proofs.YtkhgaenffnoimaaGreatDoor
open Go.ChangeShapes Go.WideShapes Go.ChangeAt Go.RowKit
theorem rowsAt : ((List.range 7).all fun i => Go.Pinned.pow10Rows[i + 358]? == some (pmOf (i + 10), 0)) = true := by kernel_rfl
theorem rowAt (p : Nat) (h0 : 10 ≤ p) (h1 : p ≤ 16) : Go.Pinned.pow10Rows[p + 348]? = some (pmOf p, 0) := by
  have h := List.all_eq_true.1 rowsAt (p - 10) (by simp; omega)
  have e1 : p - 10 + 358 = p + 348 := by omega
  have e2 : p - 10 + 10 = p := by omega
  simpa [e1, e2] using h
theorem tabN_of_laid {W : World} (h : laidMetH Tryz.prog Rows.fnNegatedRow.laid W) : Lib.TabIs Tryz.prog W "internal/strconv.uint64pow10" .u64 Lib.pow10Tab := by
  rw [MakeChecks.laidMetH_plain _ _ _ (by kernel_rfl)] at h
  obtain ⟨g, t, cs, fuel, p, hg, ht, hv, hd⟩ := Lib.laidMet.reads h (.tail _ (.tail _ (.tail _ (.tail _ (.tail _ (.tail _ (.tail _ (.tail _ (.head _)))))))))
  obtain rfl := Option.some.inj ((show Tryz.prog.globalNamed "internal/strconv.uint64pow10" = some 3 by kernel_rfl).symm.trans hg)
  obtain rfl := Option.some.inj ((show (Tryz.prog.globals[3]?).map (·.type) = some 200 by kernel_rfl).symm.trans ht)
  have e : (Rows.laid_internal_strconv_uint64pow10 : DataW Unit) = Lib.tabData .u64 Lib.pow10Tab := by kernel_rfl
  rw [e] at hd
  have hc := Lib.cells_of_tab Tryz.underlying200 Tryz.underlying157 (by kernel_rfl) (by kernel_rfl) hd
  unfold Lib.TabIs
  rw [hv, ← hc]
theorem powN_of_laid {W : World} (h : laidMetH Tryz.prog Rows.fnNegatedRow.laid W) : PowTab W := by
  rw [MakeChecks.laidMetH_plain _ _ _ (by kernel_rfl)] at h
  obtain ⟨g, t, cs, fuel, p, hg, ht, hv, hd⟩ := Lib.laidMet.reads h (.tail _ (.tail _ (.tail _ (.tail _ (.tail _ (.tail _ (.tail _ (.tail _ (.tail _ (.tail _ (.tail _ (.tail _ (.tail _ (.tail _ (.tail _ (.head _))))))))))))))))
  obtain rfl := Option.some.inj ((show Tryz.prog.globalNamed "internal/strconv.pow10Tab" = some 18 by kernel_rfl).symm.trans hg)
  obtain rfl := Option.some.inj ((show (Tryz.prog.globals[18]?).map (·.type) = some 294 by kernel_rfl).symm.trans ht)
  obtain ⟨xs, m, _, ex, hlen, hl, hel⟩ := DataW.trod_array Tryz.underlying294 hd
  have c293 : Tryz.prog.cellsOf 293 = 2 := by kernel_rfl
  have c294 : Tryz.prog.cellsOf 294 = 1392 := by kernel_rfl
  have e3 : (xs.map (·.1)) = Go.Pinned.pow10Rows.map fun x => (DataW.agg [.lit (.int .u64 x.1), .lit (.int .u64 x.2)] : DataW Unit) := (DataW.agg.inj (Prod.mk.inj ex).1).symm
  have key : ∀ q, 10 ≤ q → q ≤ 16 → W.cell? ⟨18, (q + 348) * 2, none⟩ = some (.int .u64 (pmOf q)) ∧ W.cell? ⟨18, (q + 348) * 2 + 1, none⟩ = some (.int .u64 0) := by
    intro q h0 h1
    have hE := hel (q + 348) (by omega)
    rw [c293, List.getElem?_eq_getElem (by omega)] at hE
    have e4 : (xs.map (·.1))[q + 348]? = (Go.Pinned.pow10Rows.map fun x => (DataW.agg [.lit (.int .u64 x.1), .lit (.int .u64 x.2)] : DataW Unit))[q + 348]? := by rw [e3]
    rw [List.getElem?_map, List.getElem?_map, List.getElem?_eq_getElem (by omega : q + 348 < xs.length), rowAt q h0 h1] at e4
    simp only [Option.map_some, Option.some.injEq] at e4
    have hy : xs[q + 348]'(by omega) = (.agg ([((pmOf q : Nat) : Int), 0].map fun z => .lit (.int .u64 z)), (xs[q + 348]'(by omega)).2) := Prod.ext e4 rfl
    rw [hy] at hE
    have hc := Lib.ints_of_struct Tryz.underlying293 (fun i f hf => by
      match i, hf with
      | 0, hf => cases hf; exact ⟨Tryz.underlying157, rfl, by kernel_rfl⟩
      | 1, hf => cases hf; exact ⟨Tryz.underlying157, rfl, by kernel_rfl⟩
      | i + 2, hf => simp at hf) (by kernel_rfl) hE
    have g0 := congrArg (·[0]?) hc
    have g1 := congrArg (·[1]?) hc
    simp only [List.getElem?_take, List.getElem?_drop, List.map_cons, List.map_nil] at g0 g1
    refine ⟨?_, ?_⟩
    · rw [World.var?_cell hg hv]
      simpa using g0
    · rw [World.var?_cell hg hv]
      simpa using g1
  have k0 := (key 10 (by decide) (by decide)).1
  refine ⟨?_, key⟩
  unfold World.cell? at k0
  cases hx : W.heap[18]? with
  | none => simp [hx] at k0
  | some ob => exact (Array.getElem?_eq_some_iff.1 hx).1
theorem opt_of_laid {W : World} (h : laidMetH Tryz.prog Rows.fnNegatedRow.laid W) : W.cell? ⟨8, 0, none⟩ = some (.bool true) := by
  rw [MakeChecks.laidMetH_plain _ _ _ (by kernel_rfl)] at h
  obtain ⟨g, t, cs, fuel, p, hg, ht, hv, hd⟩ := Lib.laidMet.reads h (.tail _ (.tail _ (.tail _ (.tail _ (.head _)))))
  obtain rfl := Option.some.inj ((show Tryz.prog.globalNamed "internal/strconv.optimize" = some 8 by kernel_rfl).symm.trans hg)
  obtain rfl := Option.some.inj ((show (Tryz.prog.globals[8]?).map (·.type) = some 4 by kernel_rfl).symm.trans ht)
  obtain ⟨b, hcs, hx⟩ := DataW.trod_bool Tryz.underlying4 hd
  have hb : b = true := by
    have := congrArg Prod.fst hx
    have e : (Rows.laid_internal_strconv_optimize : DataW Unit) = .lit (.bool true) := rfl
    rw [e] at this
    exact (Lit.bool.inj (DataW.lit.inj this)).symm
  rw [World.var?_cell hg hv, ← Array.getElem?_toList, hcs, hb]
  rfl
theorem bits_of_laid {W : World} (h : laidMetH Tryz.prog Rows.fnNegatedRow.laid W) : W.cell? ⟨12, 0, none⟩ = some (.int .u64 52) := by
  rw [MakeChecks.laidMetH_plain _ _ _ (by kernel_rfl)] at h
  obtain ⟨g, t, cs, fuel, p, hg, ht, hv, hd⟩ := Lib.laidMet.reads h (.tail _ (.tail _ (.tail _ (.head _))))
  obtain rfl := Option.some.inj ((show Tryz.prog.globalNamed "internal/strconv.float64info" = some 12 by kernel_rfl).symm.trans hg)
  obtain rfl := Option.some.inj ((show (Tryz.prog.globals[12]?).map (·.type) = some 253 by kernel_rfl).symm.trans ht)
  obtain ⟨xs, m, _, hx, hlen, hl, hel⟩ := DataW.trod_struct Tryz.underlying253 hd
  have hE := hel 0 _ rfl
  obtain ⟨b, hb⟩ : ∃ b, xs[0]? = some b := ⟨xs[0]'(by rw [hl]; decide), List.getElem?_eq_getElem (by rw [hl]; decide)⟩
  rw [hb] at hE
  obtain ⟨z, hcz, rfl, _⟩ := DataW.trod_int (k := .u64) (by kernel_rfl) hE
  have hz : z = 52 := by
    have e : (Rows.laid_internal_strconv_float64info : DataW Unit) = .agg [.lit (.int .u64 52), .lit (.int .u64 11), .lit (.int .i64 (-1023))] := rfl
    rw [e] at hx
    have h1 := (DataW.agg.inj (Prod.mk.inj hx).1)
    have h2 := congrArg (·[0]?) h1
    simp [hb] at h2
    exact h2.symm
  subst hz
  have g0 := congrArg (·[0]?) hcz
  simp only [List.getElem?_take, List.getElem?_drop] at g0
  rw [World.var?_cell hg hv, ← Array.getElem?_toList]
  have g1 : 0 < Tryz.prog.cellsOf 143 ∧ cs.toList[0]? = some (Value.int IntKind.u64 52) := by simpa using g0
  exact g1.2
theorem tabs_of_laid {W : World} (h : laidMetH Tryz.prog Rows.fnNegatedRow.laid W) : Tabs W := ⟨powN_of_laid h, tabN_of_laid h⟩
theorem ft_of_laid {W : World} (h : laidMetH Tryz.prog Rows.fnNegatedRow.laid W) : FT W := ⟨(powN_of_laid h).1, opt_of_laid h, bits_of_laid h⟩
end Go.Proofs.YtkhgaenffnoimaaGreatDoor
