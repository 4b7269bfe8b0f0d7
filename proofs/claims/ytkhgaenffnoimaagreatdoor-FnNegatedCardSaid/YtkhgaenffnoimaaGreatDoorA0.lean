/- Words that the walks of this seat share: what a call leaves, and small facts on worlds. Under no condition. -/
import Derived.Test.YtkhgaenffnoimaaGreatDoorProg
import Derived.WalkKit
import Derived.WalkLawsBesides
import Derived.WalkSpells
import Derived.OwnWalk
import Derived.Below
import Derived.Lib.Hide
import Derived.Laws.Entries
import Derived.Deep.Draws
import Derived.KernelRfl
import Derived.Laws.IdiomStrings
import Derived.Laws.BytesArg
import Derived.Outline
import Derived.Laws.Strings
import Derived.LoopN
set_option linter.unusedSimpArgs false
set_option linter.unusedVariables false
namespace Go.Proofs.YtkhgaenffnoimaaGreatDoor
open Go.RowKit

theorem run_store_float (P : Program) (w : World) (a : Addr) (m : Mode) (k : FloatKind) (b : Nat) : (store a (.float k b) m).run P w = stored P w a (.float k b) m := run_store P w a _ m rfl
theorem below_drewN {B : Nat} {a w : World} (h : Below B a w) (n : Nat) : Below B a (w.drewN n) := ⟨h.os, h.tape, h.output, h.size, h.block⟩
theorem below_then {B : Nat} {w w1 w2 : World} (h : Below B w w1) (hB : B ≤ w1.heap.size) (k : Below w1.heap.size w1 w2) : Below B w w2 :=
  h.trans ⟨k.os, k.tape, k.output, k.size, fun i hi => k.block i (Nat.lt_of_lt_of_le hi hB)⟩
theorem below_via {B : Nat} {w W w2 : World} (k : Below W.heap.size W w2) (hB : B ≤ W.heap.size) (h : Below B w W) : Below B w w2 := below_then h hB k
theorem keepS {W0 W w2 : World} (hb : Below W.heap.size W w2) (h : Below W0.heap.size W0 W) : Below W0.heap.size W0 w2 := below_then h h.size hb
theorem below_via2 {w W w2 : World} (k : Below W.heap.size W w2) (h : Below w.heap.size w W) (hB : w.heap.size ≤ W.heap.size) : Below w.heap.size w w2 := below_then h hB k
theorem bcell {W w1 : World} (hb : Below W.heap.size W w1) : (∀ b o, b < W.heap.size → w1.cell? ⟨b, o, none⟩ = W.cell? ⟨b, o, none⟩) ∧ (∀ b o, b < W.heap.size → w1.frozen? ⟨b, o, none⟩ = W.frozen? ⟨b, o, none⟩) ∧ (∀ b, b < W.heap.size → b < w1.heap.size) :=
  ⟨fun b o h => hb.cell (p := ⟨b, o, none⟩) h, fun b o h => hb.frozen (p := ⟨b, o, none⟩) h, fun _ h => Nat.lt_of_lt_of_le h hb.size⟩

/-- It returns v; what was there is as it was. -/
def Ret (w : World) (v : Value) (e : Ending) (w' : World) : Prop := e = .returned v ∧ Below w.heap.size w w'
/-- It returns a bool of which R holds; what was there is as it was. -/
def RetB (w : World) (R : Bool → Prop) (e : Ending) (w' : World) : Prop := ∃ b, e = .returned (.bool b) ∧ R b ∧ Below w.heap.size w w'
/-- It returns a value of which R holds; what was there is as it was. -/
def RetV (w : World) (R : Value → Prop) (e : Ending) (w' : World) : Prop := ∃ v, e = .returned v ∧ R v ∧ Below w.heap.size w w'

theorem ret_mk {w w' : World} {v : Value} (h : Below w.heap.size w w') : Ret w v (.returned v) w' := ⟨rfl, h⟩
theorem retB_mk {w w' : World} {R : Bool → Prop} (b : Bool) (hr : R b) (h : Below w.heap.size w w') : RetB w R (.returned (.bool b)) w' := ⟨b, rfl, hr, h⟩
theorem retV_mk {w w' : World} {R : Value → Prop} (v : Value) (hr : R v) (h : Below w.heap.size w w') : RetV w R (.returned v) w' := ⟨v, rfl, hr, h⟩

theorem addr0 (g j : Nat) : (⟨g, 0, none⟩ : Addr).add j = ⟨g, j, none⟩ := by unfold Addr.add; split <;> simp_all
/-- Block g holds the bytes xs, free to be written. -/
structure BBlk (w : World) (g : Nat) (xs : List Int) : Prop where
  lt : g < w.heap.size
  cell : ∀ j, j < xs.length → w.cell? ⟨g, j, none⟩ = some (.int .u8 (xs.getD j 0))
  free : ∀ j, j < xs.length → w.frozen? ⟨g, j, none⟩ = false
  byte : ∀ j, j < xs.length → 0 ≤ xs.getD j 0 ∧ xs.getD j 0 ≤ 255
theorem BBlk.below {w w1 : World} {g : Nat} {xs : List Int} (h : BBlk w g xs) (hb : Below w.heap.size w w1) : BBlk w1 g xs :=
  ⟨Nat.lt_of_lt_of_le h.lt hb.size, fun j hj => (hb.cell (p := ⟨g, j, none⟩) h.lt).trans (h.cell j hj), fun j hj => (hb.frozen (p := ⟨g, j, none⟩) h.lt).trans (h.free j hj), h.byte⟩
theorem getD_set (xs : List Int) (k j : Nat) (d : Int) (hk : k < xs.length) : (xs.set k d).getD j 0 = if j = k then d else xs.getD j 0 := by
  simp only [List.getD_eq_getElem?_getD, List.getElem?_set]
  by_cases h : k = j
  · subst h; simp [hk]
  · simp [h, Ne.symm h]
theorem BBlk.set_ {w : World} {g : Nat} {xs : List Int} (h : BBlk w g xs) (k : Nat) (hk : k < xs.length) (d : Int) (h0 : 0 ≤ d) (h1 : d ≤ 255) : BBlk (w.setCell ⟨g, k, none⟩ (.int .u8 d)) g (xs.set k d) := by
  refine ⟨by simpa [World.setCell] using h.lt, fun j hj => ?_, fun j hj => ?_, fun j hj => ?_⟩
  · rw [getD_set _ _ _ _ hk]
    have hj' : j < xs.length := by simpa using hj
    by_cases e : j = k
    · subst e
      rw [if_pos rfl]
      exact World.cell?_setCell_same w ⟨g, j, none⟩ _ (h.cell j hj')
    · rw [if_neg e, World.cell?_setCell_other w _ _ _ (fun he => e (by injection he with _ h2 _; exact h2.symm))]
      exact h.cell j hj'
  · have hj' : j < xs.length := by simpa using hj
    rw [World.frozen?_setCell]
    exact h.free j hj'
  · have hj' : j < xs.length := by simpa using hj
    rw [getD_set _ _ _ _ hk]
    split
    · exact ⟨h0, h1⟩
    · exact h.byte j hj'
theorem BBlk.at_ {w : World} {g : Nat} {xs : List Int} (h : BBlk w g xs) (k : Nat) (hk : k < xs.length) : ∃ d : Int, 0 ≤ d ∧ d ≤ 255 ∧ w.cell? ⟨g, k, none⟩ = some (.int .u8 d) ∧ w.frozen? ⟨g, k, none⟩ = false :=
  ⟨_, (h.byte k hk).1, (h.byte k hk).2, h.cell k hk, h.free k hk⟩
theorem BBlk.of_bytes (w : World) (s : ByteArray) (cap : Nat) (t : TypeId) (n m : Nat) (hn : s.size ≤ n) : BBlk (w.alloc (.cells (bytesRow s cap) t (n, m))) w.heap.size (s.data.toList.map fun b => (b.toNat : Int)) := by
  have hcell : ∀ j, (w.alloc (.cells (bytesRow s cap) t (n, m))).cell? ⟨w.heap.size, j, none⟩ = (bytesRow s cap)[j]? := fun j => by
    have h : (w.alloc (.cells (bytesRow s cap) t (n, m))).heap[w.heap.size]? = some (.cells (bytesRow s cap) t (n, m)) := heap_alloc_new w _
    unfold World.cell?
    simp only [h]
    rfl
  have hget : ∀ j (hj : j < s.data.size), (s.data.toList.map fun b => (b.toNat : Int)).getD j 0 = (s.data[j].toNat : Int) := fun j hj => by
    rw [List.getD_eq_getElem?_getD, List.getElem?_map, Array.getElem?_toList, Array.getElem?_eq_getElem hj]
    rfl
  refine ⟨by simp, fun j hj => ?_, fun j hj => ?_, fun j hj => ?_⟩
  · have hj' : j < s.data.size := by simpa using hj
    rw [hcell, bytesRow_at s cap j hj', hget j hj']
  · have hj' : j < s.data.size := by simpa using hj
    have h : (w.alloc (.cells (bytesRow s cap) t (n, m))).heap[w.heap.size]? = some (.cells (bytesRow s cap) t (n, m)) := heap_alloc_new w _
    unfold World.frozen?
    simp only [h]
    have : s.size = s.data.size := rfl
    have h2 : ¬ n ≤ j := by omega
    simp [h2]
  · have hj' : j < s.data.size := by simpa using hj
    rw [hget j hj']
    have := s.data[j].toNat_lt
    omega
theorem BBlk.drew {w : World} {g : Nat} {xs : List Int} (h : BBlk w g xs) : BBlk w.drew g xs := ⟨h.lt, h.cell, h.free, h.byte⟩
theorem size_strOfNums (xs : List Int) : (strOfNums xs).size = xs.length := by
  unfold strOfNums
  simp [ByteArray.size]
theorem toList_inj {s t : ByteArray} (h : s.toList = t.toList) : s = t := by
  rw [ByteArray.toList_eq, ByteArray.toList_eq] at h
  cases s; cases t
  congr
  exact Array.toList_inj.1 h
end Go.Proofs.YtkhgaenffnoimaaGreatDoor
