/- EXACT of the implementation. -/
import Derived.Test.YtkhgaenffnoimaaGreatDoorJ3
import Derived.Test.YtkhgaenffnoimaaGreatDoorJ1
set_option linter.unusedSimpArgs false
set_option linter.unusedVariables false
namespace Go.Proofs.YtkhgaenffnoimaaGreatDoor
open Go.RowKit
attribute [local go_sem] run_store_float
theorem as64 (v : Value) (w : World) : (Instr.typeAssert (.iface 68 v) 20 68 false).run Tryz.prog w = .ok v w := by kernel_rfl
attribute [local go_sem] as64
def bt (b : Bool) : Nat := if b then 4607182418800017408 else 0
theorem keepS' {B : Nat} {w w1 w2 : World} (h : Below B w w1) (hB : B ≤ w1.heap.size) (k : Below w1.heap.size w1 w2) : Below B w w2 := below_then h hB k
theorem c92u (b : Bool) (w : World) : Calls Tryz.prog 92 #[.bool b] w (Ret w (.agg #[.string ⟨#[]⟩, .float .f64 (bt b), .string ⟨#[]⟩, .slice none 0 0, .slice none 0 0, .bool true, .string ⟨#[]⟩, .int .u8 1, .pointer none, .pointer none])) := c92 b w
set_option maxRecDepth 100000 in
set_option maxHeartbeats 2000000 in
theorem c46 (w : World) : Calls Tryz.prog 46 #[] w (RetV w fun v => ∃ p, v = .pointer p) := by
  go_enter Tryz.func46, Tryz.ntmps46
  go_wp2_with fail
  go_ret
  exact retV_mk _ ⟨_, rfl⟩ (by repeat (first | (with_reducible exact Below.refl _ _) | (with_reducible assumption) | ((with_reducible refine Below.alloc ?_ ?_ _); rotate_left; focus (first | exact Nat.le_refl _ | omega | (simp; done) | (simp; omega))) | ((with_reducible refine Below.setCell ?_ ?_ _); rotate_left; focus (first | exact Nat.le_refl _ | omega | (simp; done) | (simp; omega))) | (with_reducible refine Below.drew ?_) | (with_reducible refine below_drewN ?_ _) | ((with_reducible refine below_via (by assumption) ?_ ?_); focus (first | exact Nat.le_refl _ | omega | (simp; done) | (simp; omega)))))
end Go.Proofs.YtkhgaenffnoimaaGreatDoor
