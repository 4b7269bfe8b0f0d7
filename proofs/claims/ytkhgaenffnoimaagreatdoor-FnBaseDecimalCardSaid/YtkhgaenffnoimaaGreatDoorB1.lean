/- Values in memory, and every of the reference. -/
import Derived.Test.YtkhgaenffnoimaaGreatDoorA0
set_option linter.unusedSimpArgs false
set_option linter.unusedVariables false
namespace Go.Proofs.YtkhgaenffnoimaaGreatDoor
open Go.RowKit
attribute [local go_sem] run_store_float

/-- A value of the reference without rows. -/
structure V where
  k : Int
  n : Int
  d : Int
  t : ByteArray
structure VCell (w : World) (g j : Nat) (v : V) : Prop where
  c0 : w.cell? ⟨g, j * 5, none⟩ = some (.int .i64 v.k)
  c1 : w.cell? ⟨g, j * 5 + 1, none⟩ = some (.int .i64 v.n)
  c2 : w.cell? ⟨g, j * 5 + 2, none⟩ = some (.int .i64 v.d)
  c3 : w.cell? ⟨g, j * 5 + 3, none⟩ = some (.string v.t)
  c4 : w.cell? ⟨g, j * 5 + 4, none⟩ = some (.slice none 0 0)
/-- A slice at A reads as xs. -/
def VRow (w : World) (A : Option Addr) (xs : List V) : Prop := xs = [] ∨ ∃ g, A = some ⟨g, 0, none⟩ ∧ g < w.heap.size ∧ ∀ j v, xs[j]? = some v → VCell w g j v
theorem VCell.below {w w1 : World} {g j : Nat} {v : V} (h : VCell w g j v) (hb : Below w.heap.size w w1) (hg : g < w.heap.size) : VCell w1 g j v :=
  ⟨(hb.cell (p := ⟨g, _, none⟩) hg).trans h.c0, (hb.cell (p := ⟨g, _, none⟩) hg).trans h.c1, (hb.cell (p := ⟨g, _, none⟩) hg).trans h.c2, (hb.cell (p := ⟨g, _, none⟩) hg).trans h.c3, (hb.cell (p := ⟨g, _, none⟩) hg).trans h.c4⟩
theorem VRow.below {w w1 : World} {A : Option Addr} {xs : List V} (h : VRow w A xs) (hb : Below w.heap.size w w1) : VRow w1 A xs := by
  rcases h with h | ⟨g, rfl, hg, hc⟩
  · exact .inl h
  · exact .inr ⟨g, rfl, Nat.lt_of_lt_of_le hg hb.size, fun j v hj => (hc j v hj).below hb hg⟩

end Go.Proofs.YtkhgaenffnoimaaGreatDoor
