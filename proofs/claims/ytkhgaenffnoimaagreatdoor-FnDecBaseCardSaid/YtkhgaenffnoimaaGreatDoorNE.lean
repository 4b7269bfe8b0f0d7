/- The three tables of dec2x. -/
import Derived.Test.YtkhgaenffnoimaaGreatDoorN8
import Derived.MapKept
set_option linter.unusedSimpArgs false
set_option linter.unusedVariables false
namespace Go.Proofs.YtkhgaenffnoimaaGreatDoor
open Go.RowKit Go.MapKept
theorem push_set {α : Type} (a : Array α) (x y : α) : (a.push x).setIfInBounds a.size y = a.push y := by
  apply Array.ext
  · simp
  · intro i h1 h2
    have h3 : i < a.size + 1 := by simpa using h2
    rw [Array.getElem_setIfInBounds (by simpa using h3), Array.getElem_push, Array.getElem_push]
    by_cases h : a.size = i
    · subst h
      simp
    · rw [if_neg h, dif_pos (by omega), dif_pos (by omega)]
theorem under154 : Tryz.prog.underlying 154 = some (.map 9 24) := by kernel_rfl
theorem under155 : Tryz.prog.underlying 155 = some (.map 9 3) := by kernel_rfl
theorem ins_new (W : World) (T E : TypeId) (hT : Tryz.prog.underlying T = some (.map 9 E)) (B : Nat) (es : Array MapEntry) (clock : Nat) (s : ByteArray) (v : Value) (hB : B = W.heap.size)
    (hf : Instr.findNow .string (.string s) es.toList 0 = some none) :
    (Instr.mapUpdate T (.map (some B)) (.string s) v).run Tryz.prog (W.alloc (.map es clock)) = .ok () (W.alloc (.map (es.push { key := .string s, val := v, born := clock }) (clock + 1))) := by
  subst hB
  have hb : (W.alloc (.map es clock)).heap[W.heap.size]? = some (.map es clock) := heap_alloc_new W _
  have h1 := run_findKey (P := Tryz.prog) (w := W.alloc (.map es clock)) Tryz.underlying9 hf
  have h2 := run_checkKey (P := Tryz.prog) (w := W.alloc (.map es clock)) Tryz.underlying9 (k := .string s) (by simp [IsKey]) false 9999
  have h3 := Go.MapKept.run_setObj_map (P := Tryz.prog) (.map (es.push { key := .string s, val := v, born := clock }) (clock + 1)) hb
  have h4 := Go.MapKept.run_getObj_map (P := Tryz.prog) hb
  unfold Instr.mapUpdate
  simp [run_underlying hT, Result.andThen, h1, h2, h3, h4]
  unfold World.alloc
  simp [push_set]
theorem look_at (W : World) (T E : TypeId) (hT : Tryz.prog.underlying T = some (.map 9 E)) (B : Nat) (es : Array MapEntry) (clock : Nat) (s : ByteArray) (i : Nat) (v : Value) (hb : W.heap[B]? = some (.map es clock))
    (hf : Instr.findNow .string (.string s) es.toList 0 = some (some (i, v))) :
    (Instr.lookup T (.map (some B)) (.string s) false).run Tryz.prog W = .ok v W := by
  have h1 := run_findKey (P := Tryz.prog) (w := W) Tryz.underlying9 hf
  have h2 := run_checkKey (P := Tryz.prog) (w := W) Tryz.underlying9 (k := .string s) (by simp [IsKey]) es.isEmpty 9999
  have h4 := Go.MapKept.run_getObj_map (P := Tryz.prog) hb
  unfold Instr.lookup
  simp [run_underlying hT, Result.andThen, h1, h2, h4]
/-- The first entries of a table. -/
def mA (k : Nat) : Array MapEntry := ((([{ key := .string ⟨#[68, 69, 67, 50, 66, 73, 78]⟩, val := .float .f64 4647697223260307456, born := 0 }, { key := .string ⟨#[72, 69, 88, 50, 66, 73, 78]⟩, val := .float .f64 4647697223260307456, born := 1 }, { key := .string ⟨#[79, 67, 84, 50, 66, 73, 78]⟩, val := .float .f64 4647697223260307456, born := 2 }, { key := .string ⟨#[66, 73, 78, 50, 72, 69, 88]⟩, val := .float .f64 4782822804267450368, born := 3 }, { key := .string ⟨#[68, 69, 67, 50, 72, 69, 88]⟩, val := .float .f64 4782822804267450368, born := 4 }, { key := .string ⟨#[79, 67, 84, 50, 72, 69, 88]⟩, val := .float .f64 4782822804267450368, born := 5 }, { key := .string ⟨#[66, 73, 78, 50, 79, 67, 84]⟩, val := .float .f64 4737786807976984576, born := 6 }, { key := .string ⟨#[68, 69, 67, 50, 79, 67, 84]⟩, val := .float .f64 4737786807976984576, born := 7 }, { key := .string ⟨#[72, 69, 88, 50, 79, 67, 84]⟩, val := .float .f64 4737786807976984576, born := 8 }] : List MapEntry)).take k).toArray
theorem mkA (W : World) : (Instr.makeMap 154 none).run Tryz.prog W = .ok (.map (some W.heap.size)) (W.alloc (.map (mA 0) 0)) := rfl
theorem inA0 (W : World) (B : Nat) (hB : B = W.heap.size) : (Instr.mapUpdate 154 (.map (some B)) (.string ⟨#[68, 69, 67, 50, 66, 73, 78]⟩) (.float .f64 4647697223260307456)).run Tryz.prog (W.alloc (.map (mA 0) 0)) = .ok () (W.alloc (.map (mA 1) 1)) := ins_new W 154 _ under154 B (mA 0) 0 _ _ hB (by kernel_rfl)
theorem inA1 (W : World) (B : Nat) (hB : B = W.heap.size) : (Instr.mapUpdate 154 (.map (some B)) (.string ⟨#[72, 69, 88, 50, 66, 73, 78]⟩) (.float .f64 4647697223260307456)).run Tryz.prog (W.alloc (.map (mA 1) 1)) = .ok () (W.alloc (.map (mA 2) 2)) := ins_new W 154 _ under154 B (mA 1) 1 _ _ hB (by kernel_rfl)
theorem inA2 (W : World) (B : Nat) (hB : B = W.heap.size) : (Instr.mapUpdate 154 (.map (some B)) (.string ⟨#[79, 67, 84, 50, 66, 73, 78]⟩) (.float .f64 4647697223260307456)).run Tryz.prog (W.alloc (.map (mA 2) 2)) = .ok () (W.alloc (.map (mA 3) 3)) := ins_new W 154 _ under154 B (mA 2) 2 _ _ hB (by kernel_rfl)
theorem inA3 (W : World) (B : Nat) (hB : B = W.heap.size) : (Instr.mapUpdate 154 (.map (some B)) (.string ⟨#[66, 73, 78, 50, 72, 69, 88]⟩) (.float .f64 4782822804267450368)).run Tryz.prog (W.alloc (.map (mA 3) 3)) = .ok () (W.alloc (.map (mA 4) 4)) := ins_new W 154 _ under154 B (mA 3) 3 _ _ hB (by kernel_rfl)
theorem inA4 (W : World) (B : Nat) (hB : B = W.heap.size) : (Instr.mapUpdate 154 (.map (some B)) (.string ⟨#[68, 69, 67, 50, 72, 69, 88]⟩) (.float .f64 4782822804267450368)).run Tryz.prog (W.alloc (.map (mA 4) 4)) = .ok () (W.alloc (.map (mA 5) 5)) := ins_new W 154 _ under154 B (mA 4) 4 _ _ hB (by kernel_rfl)
theorem inA5 (W : World) (B : Nat) (hB : B = W.heap.size) : (Instr.mapUpdate 154 (.map (some B)) (.string ⟨#[79, 67, 84, 50, 72, 69, 88]⟩) (.float .f64 4782822804267450368)).run Tryz.prog (W.alloc (.map (mA 5) 5)) = .ok () (W.alloc (.map (mA 6) 6)) := ins_new W 154 _ under154 B (mA 5) 5 _ _ hB (by kernel_rfl)
theorem inA6 (W : World) (B : Nat) (hB : B = W.heap.size) : (Instr.mapUpdate 154 (.map (some B)) (.string ⟨#[66, 73, 78, 50, 79, 67, 84]⟩) (.float .f64 4737786807976984576)).run Tryz.prog (W.alloc (.map (mA 6) 6)) = .ok () (W.alloc (.map (mA 7) 7)) := ins_new W 154 _ under154 B (mA 6) 6 _ _ hB (by kernel_rfl)
theorem inA7 (W : World) (B : Nat) (hB : B = W.heap.size) : (Instr.mapUpdate 154 (.map (some B)) (.string ⟨#[68, 69, 67, 50, 79, 67, 84]⟩) (.float .f64 4737786807976984576)).run Tryz.prog (W.alloc (.map (mA 7) 7)) = .ok () (W.alloc (.map (mA 8) 8)) := ins_new W 154 _ under154 B (mA 7) 7 _ _ hB (by kernel_rfl)
theorem inA8 (W : World) (B : Nat) (hB : B = W.heap.size) : (Instr.mapUpdate 154 (.map (some B)) (.string ⟨#[72, 69, 88, 50, 79, 67, 84]⟩) (.float .f64 4737786807976984576)).run Tryz.prog (W.alloc (.map (mA 8) 8)) = .ok () (W.alloc (.map (mA 9) 9)) := ins_new W 154 _ under154 B (mA 8) 8 _ _ hB (by kernel_rfl)
/-- The first entries of a table. -/
def mB (k : Nat) : Array MapEntry := ((([{ key := .string ⟨#[68, 69, 67, 50, 66, 73, 78]⟩, val := .float .f64 13871086852301127680, born := 0 }, { key := .string ⟨#[72, 69, 88, 50, 66, 73, 78]⟩, val := .float .f64 13871086852301127680, born := 1 }, { key := .string ⟨#[79, 67, 84, 50, 66, 73, 78]⟩, val := .float .f64 13871086852301127680, born := 2 }, { key := .string ⟨#[66, 73, 78, 50, 72, 69, 88]⟩, val := .float .f64 14006194841122242560, born := 3 }, { key := .string ⟨#[68, 69, 67, 50, 72, 69, 88]⟩, val := .float .f64 14006194841122242560, born := 4 }, { key := .string ⟨#[79, 67, 84, 50, 72, 69, 88]⟩, val := .float .f64 14006194841122242560, born := 5 }, { key := .string ⟨#[66, 73, 78, 50, 79, 67, 84]⟩, val := .float .f64 13961158844848537600, born := 6 }, { key := .string ⟨#[68, 69, 67, 50, 79, 67, 84]⟩, val := .float .f64 13961158844848537600, born := 7 }, { key := .string ⟨#[72, 69, 88, 50, 79, 67, 84]⟩, val := .float .f64 13961158844848537600, born := 8 }] : List MapEntry)).take k).toArray
theorem inB0 (W : World) (B : Nat) (hB : B = W.heap.size) : (Instr.mapUpdate 154 (.map (some B)) (.string ⟨#[68, 69, 67, 50, 66, 73, 78]⟩) (.float .f64 13871086852301127680)).run Tryz.prog (W.alloc (.map (mA 0) 0)) = .ok () (W.alloc (.map (mB 1) 1)) := ins_new W 154 _ under154 B (mA 0) 0 _ _ hB (by kernel_rfl)
theorem inB1 (W : World) (B : Nat) (hB : B = W.heap.size) : (Instr.mapUpdate 154 (.map (some B)) (.string ⟨#[72, 69, 88, 50, 66, 73, 78]⟩) (.float .f64 13871086852301127680)).run Tryz.prog (W.alloc (.map (mB 1) 1)) = .ok () (W.alloc (.map (mB 2) 2)) := ins_new W 154 _ under154 B (mB 1) 1 _ _ hB (by kernel_rfl)
theorem inB2 (W : World) (B : Nat) (hB : B = W.heap.size) : (Instr.mapUpdate 154 (.map (some B)) (.string ⟨#[79, 67, 84, 50, 66, 73, 78]⟩) (.float .f64 13871086852301127680)).run Tryz.prog (W.alloc (.map (mB 2) 2)) = .ok () (W.alloc (.map (mB 3) 3)) := ins_new W 154 _ under154 B (mB 2) 2 _ _ hB (by kernel_rfl)
theorem inB3 (W : World) (B : Nat) (hB : B = W.heap.size) : (Instr.mapUpdate 154 (.map (some B)) (.string ⟨#[66, 73, 78, 50, 72, 69, 88]⟩) (.float .f64 14006194841122242560)).run Tryz.prog (W.alloc (.map (mB 3) 3)) = .ok () (W.alloc (.map (mB 4) 4)) := ins_new W 154 _ under154 B (mB 3) 3 _ _ hB (by kernel_rfl)
theorem inB4 (W : World) (B : Nat) (hB : B = W.heap.size) : (Instr.mapUpdate 154 (.map (some B)) (.string ⟨#[68, 69, 67, 50, 72, 69, 88]⟩) (.float .f64 14006194841122242560)).run Tryz.prog (W.alloc (.map (mB 4) 4)) = .ok () (W.alloc (.map (mB 5) 5)) := ins_new W 154 _ under154 B (mB 4) 4 _ _ hB (by kernel_rfl)
theorem inB5 (W : World) (B : Nat) (hB : B = W.heap.size) : (Instr.mapUpdate 154 (.map (some B)) (.string ⟨#[79, 67, 84, 50, 72, 69, 88]⟩) (.float .f64 14006194841122242560)).run Tryz.prog (W.alloc (.map (mB 5) 5)) = .ok () (W.alloc (.map (mB 6) 6)) := ins_new W 154 _ under154 B (mB 5) 5 _ _ hB (by kernel_rfl)
theorem inB6 (W : World) (B : Nat) (hB : B = W.heap.size) : (Instr.mapUpdate 154 (.map (some B)) (.string ⟨#[66, 73, 78, 50, 79, 67, 84]⟩) (.float .f64 13961158844848537600)).run Tryz.prog (W.alloc (.map (mB 6) 6)) = .ok () (W.alloc (.map (mB 7) 7)) := ins_new W 154 _ under154 B (mB 6) 6 _ _ hB (by kernel_rfl)
theorem inB7 (W : World) (B : Nat) (hB : B = W.heap.size) : (Instr.mapUpdate 154 (.map (some B)) (.string ⟨#[68, 69, 67, 50, 79, 67, 84]⟩) (.float .f64 13961158844848537600)).run Tryz.prog (W.alloc (.map (mB 7) 7)) = .ok () (W.alloc (.map (mB 8) 8)) := ins_new W 154 _ under154 B (mB 7) 7 _ _ hB (by kernel_rfl)
theorem inB8 (W : World) (B : Nat) (hB : B = W.heap.size) : (Instr.mapUpdate 154 (.map (some B)) (.string ⟨#[72, 69, 88, 50, 79, 67, 84]⟩) (.float .f64 13961158844848537600)).run Tryz.prog (W.alloc (.map (mB 8) 8)) = .ok () (W.alloc (.map (mB 9) 9)) := ins_new W 154 _ under154 B (mB 8) 8 _ _ hB (by kernel_rfl)
/-- The first entries of a table. -/
def mC (k : Nat) : Array MapEntry := ((([{ key := .string ⟨#[68, 69, 67, 50, 66, 73, 78]⟩, val := .int .i64 2, born := 0 }, { key := .string ⟨#[72, 69, 88, 50, 66, 73, 78]⟩, val := .int .i64 2, born := 1 }, { key := .string ⟨#[79, 67, 84, 50, 66, 73, 78]⟩, val := .int .i64 2, born := 2 }, { key := .string ⟨#[66, 73, 78, 50, 72, 69, 88]⟩, val := .int .i64 16, born := 3 }, { key := .string ⟨#[68, 69, 67, 50, 72, 69, 88]⟩, val := .int .i64 16, born := 4 }, { key := .string ⟨#[79, 67, 84, 50, 72, 69, 88]⟩, val := .int .i64 16, born := 5 }, { key := .string ⟨#[66, 73, 78, 50, 79, 67, 84]⟩, val := .int .i64 8, born := 6 }, { key := .string ⟨#[68, 69, 67, 50, 79, 67, 84]⟩, val := .int .i64 8, born := 7 }, { key := .string ⟨#[72, 69, 88, 50, 79, 67, 84]⟩, val := .int .i64 8, born := 8 }] : List MapEntry)).take k).toArray
theorem mkC (W : World) : (Instr.makeMap 155 none).run Tryz.prog W = .ok (.map (some W.heap.size)) (W.alloc (.map (mC 0) 0)) := rfl
theorem inC0 (W : World) (B : Nat) (hB : B = W.heap.size) : (Instr.mapUpdate 155 (.map (some B)) (.string ⟨#[68, 69, 67, 50, 66, 73, 78]⟩) (.int .i64 2)).run Tryz.prog (W.alloc (.map (mC 0) 0)) = .ok () (W.alloc (.map (mC 1) 1)) := ins_new W 155 _ under155 B (mC 0) 0 _ _ hB (by kernel_rfl)
theorem inC1 (W : World) (B : Nat) (hB : B = W.heap.size) : (Instr.mapUpdate 155 (.map (some B)) (.string ⟨#[72, 69, 88, 50, 66, 73, 78]⟩) (.int .i64 2)).run Tryz.prog (W.alloc (.map (mC 1) 1)) = .ok () (W.alloc (.map (mC 2) 2)) := ins_new W 155 _ under155 B (mC 1) 1 _ _ hB (by kernel_rfl)
theorem inC2 (W : World) (B : Nat) (hB : B = W.heap.size) : (Instr.mapUpdate 155 (.map (some B)) (.string ⟨#[79, 67, 84, 50, 66, 73, 78]⟩) (.int .i64 2)).run Tryz.prog (W.alloc (.map (mC 2) 2)) = .ok () (W.alloc (.map (mC 3) 3)) := ins_new W 155 _ under155 B (mC 2) 2 _ _ hB (by kernel_rfl)
theorem inC3 (W : World) (B : Nat) (hB : B = W.heap.size) : (Instr.mapUpdate 155 (.map (some B)) (.string ⟨#[66, 73, 78, 50, 72, 69, 88]⟩) (.int .i64 16)).run Tryz.prog (W.alloc (.map (mC 3) 3)) = .ok () (W.alloc (.map (mC 4) 4)) := ins_new W 155 _ under155 B (mC 3) 3 _ _ hB (by kernel_rfl)
theorem inC4 (W : World) (B : Nat) (hB : B = W.heap.size) : (Instr.mapUpdate 155 (.map (some B)) (.string ⟨#[68, 69, 67, 50, 72, 69, 88]⟩) (.int .i64 16)).run Tryz.prog (W.alloc (.map (mC 4) 4)) = .ok () (W.alloc (.map (mC 5) 5)) := ins_new W 155 _ under155 B (mC 4) 4 _ _ hB (by kernel_rfl)
theorem inC5 (W : World) (B : Nat) (hB : B = W.heap.size) : (Instr.mapUpdate 155 (.map (some B)) (.string ⟨#[79, 67, 84, 50, 72, 69, 88]⟩) (.int .i64 16)).run Tryz.prog (W.alloc (.map (mC 5) 5)) = .ok () (W.alloc (.map (mC 6) 6)) := ins_new W 155 _ under155 B (mC 5) 5 _ _ hB (by kernel_rfl)
theorem inC6 (W : World) (B : Nat) (hB : B = W.heap.size) : (Instr.mapUpdate 155 (.map (some B)) (.string ⟨#[66, 73, 78, 50, 79, 67, 84]⟩) (.int .i64 8)).run Tryz.prog (W.alloc (.map (mC 6) 6)) = .ok () (W.alloc (.map (mC 7) 7)) := ins_new W 155 _ under155 B (mC 6) 6 _ _ hB (by kernel_rfl)
theorem inC7 (W : World) (B : Nat) (hB : B = W.heap.size) : (Instr.mapUpdate 155 (.map (some B)) (.string ⟨#[68, 69, 67, 50, 79, 67, 84]⟩) (.int .i64 8)).run Tryz.prog (W.alloc (.map (mC 7) 7)) = .ok () (W.alloc (.map (mC 8) 8)) := ins_new W 155 _ under155 B (mC 7) 7 _ _ hB (by kernel_rfl)
theorem inC8 (W : World) (B : Nat) (hB : B = W.heap.size) : (Instr.mapUpdate 155 (.map (some B)) (.string ⟨#[72, 69, 88, 50, 79, 67, 84]⟩) (.int .i64 8)).run Tryz.prog (W.alloc (.map (mC 8) 8)) = .ok () (W.alloc (.map (mC 9) 9)) := ins_new W 155 _ under155 B (mC 8) 8 _ _ hB (by kernel_rfl)
end Go.Proofs.YtkhgaenffnoimaaGreatDoor
