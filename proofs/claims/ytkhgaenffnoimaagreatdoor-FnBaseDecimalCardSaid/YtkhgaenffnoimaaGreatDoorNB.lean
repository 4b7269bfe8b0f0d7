/- The law FnBaseDecimal. -/
import Derived.Test.YtkhgaenffnoimaaGreatDoorNA
import Derived.Deep.RegionWith
set_option linter.unusedSimpArgs false
set_option linter.unusedVariables false
namespace Go.Proofs.YtkhgaenffnoimaaGreatDoor
open Go.RowKit FL
attribute [local go_sem] run_store_float as64
theorem enters20 (args : Array Value) (W : World) : (callFunc 20 args).run Tryz.prog W = .ok (.enter 20 args) W := by simp [go_sem]
theorem enters22 (args : Array Value) (W : World) : (callFunc 22 args).run Tryz.prog W = .ok (.enter 22 args) W := by simp [go_sem]
/-- A number or a text of the reference as a value of the implementation. -/
def ofA (v : V) : I := if v.k = 2 then ⟨2, 0, v.t⟩ else ⟨1, floatOfInt FloatKind.f64 v.n, v.t⟩
def VA (v : V) : Prop := (v.k = 2 ∧ v.d = 0) ∨ (v.k = 1 ∧ v.d = 1 ∧ v.n.natAbs ≤ 99999999999)
theorem c44A (v : V) (h : VA v) (w : World) : Calls Tryz.prog 44 #[.agg #[.int .i64 v.k, .int .i64 v.n, .int .i64 v.d, .string v.t, .slice none 0 0]] w (Ret w (.agg #[.int .i64 (ofA v).k, .float .f64 (ofA v).b, .string (ofA v).t, .slice none 0 0])) := by
  obtain ⟨k, n, d, t⟩ := v
  rcases h with ⟨h, h2⟩ | ⟨h, h2, h3⟩
  · simp only at h h2
    subst h h2
    exact c44_2 n 0 t w
  · simp only at h h2 h3
    subst h h2
    exact c44_1 n t w (by omega)
theorem aok_of (v : V) (h : VA v) : AOK (ofA v) := by
  obtain ⟨k, n, d, t⟩ := v
  rcases h with ⟨h, h2⟩ | ⟨h, h2, h3⟩
  · simp only at h h2
    subst h h2
    exact .inl rfl
  · simp only at h h2 h3
    subst h h2
    exact .inr ⟨rfl, foi_ok n (by omega)⟩
theorem va_n (n : Nat) (h : n ≤ 99999999999) : VA (vN n) := .inr ⟨rfl, rfl, by simp [vN]; omega⟩
def vT (t : ByteArray) : V := ⟨2, 0, 0, t⟩
theorem va_t (t : ByteArray) : VA (vT t) := .inl ⟨rfl, rfl⟩
theorem all_two {α : Type} {p : α → Prop} {x y : α} (hx : p x) (hy : p y) : ∀ z, z ∈ [x, y] → p z := by
  intro z hz
  simp at hz
  rcases hz with rfl | rfl
  · exact hx
  · exact hy
theorem two_of (L : Nat) (bs : List Nat) (h : bs.length = 2) : ∃ x y, bs = [x, y] := by
  match bs, h with
  | [x, y], _ => exact ⟨x, y, rfl⟩
theorem vrow_two (w : World) (x y : V) : VRow (w.alloc (.cells #[.int .i64 x.k, .int .i64 x.n, .int .i64 x.d, .string x.t, .slice none 0 0, .int .i64 y.k, .int .i64 y.n, .int .i64 y.d, .string y.t, .slice none 0 0] 32)) (some ⟨w.heap.size, 0, none⟩) [x, y] := by
  refine .inr ⟨w.heap.size, rfl, by simp, fun j v hj => ?_⟩
  match j, hj with
  | 0, hj => cases hj; exact ⟨by simp [go_sem], by simp [go_sem], by simp [go_sem], by simp [go_sem], by simp [go_sem]⟩
  | 1, hj => cases hj; exact ⟨by simp [go_sem], by simp [go_sem], by simp [go_sem], by simp [go_sem], by simp [go_sem]⟩
theorem vrow_at {W X : World} {g : Nat} (x y : V) (hW : W = X.alloc (.cells #[.int .i64 x.k, .int .i64 x.n, .int .i64 x.d, .string x.t, .slice none 0 0, .int .i64 y.k, .int .i64 y.n, .int .i64 y.d, .string y.t, .slice none 0 0] 32)) (hg : g = X.heap.size) : VRow W (some ⟨g, 0, none⟩) [x, y] := by
  subst hW hg
  exact vrow_two X x y
/-- said of BASE. -/
theorem saidB (b n g c : Nat) (w : World) (h0 : 2 ≤ b) (h1 : b ≤ 36) (hn : n ≤ 99999999999) (hT : Tab w) (hT4 : 15 ≤ w.heap.size) (hx : VRow w (some ⟨g, 0, none⟩) [vN n, vN b]) :
    Calls Tryz.prog 19 #[.func (.func 20) #[] #[], .slice (some ⟨g, 0, none⟩) 2 c] w (Ret w (.agg #[.int .i64 2, .int .i64 0, .int .i64 0, .string (upT b n), .slice none 0 0])) := by
  have hva : ∀ v, v ∈ [vN n, vN b] → VA v := all_two (va_n n hn) (va_n b (by omega))
  refine c19T 20 ofA [vN n, vN b] (some ⟨g, 0, none⟩) c _ (upT b n) (by simp) (by simp) hx (fun v hv w' => c44A v (hva v hv) w') enters20 ?_
  intro W A' c' hbW hI
  refine c20 (fS (upT b n)) ⟨2, 0, upT b n⟩ _ A' c' W (by simp) (by simp) hI ?_ ?_ (fun W => c45_S (upT b n) W)
  · intro i hi
    obtain ⟨v, hv, rfl⟩ := List.mem_map.1 hi
    exact aok_of v (hva v hv)
  · intro W1 p L bs hb1 hl hd
    obtain ⟨x, y, rfl⟩ := two_of L bs (by simpa using hl)
    have hb1w : Below w.heap.size w W1 := keepS hb1 hbW
    exact c53 b n L x y (.pointer p) W1 h0 h1 hn (hT.below hb1w hT4) (Nat.le_trans hT4 hb1w.size) hd
/-- said of DECIMAL of what BASE says. -/
theorem saidD (b n g c : Nat) (w : World) (h0 : 2 ≤ b) (h1 : b ≤ 36) (hn : n ≤ 99999999999) (hx : VRow w (some ⟨g, 0, none⟩) [vT (upT b n), vN b]) :
    Calls Tryz.prog 19 #[.func (.func 22) #[] #[], .slice (some ⟨g, 0, none⟩) 2 c] w (Ret w (.agg #[.int .i64 1, .int .i64 (n : Int), .int .i64 1, .string ⟨#[]⟩, .slice none 0 0])) := by
  have hva : ∀ v, v ∈ [vT (upT b n), vN b] → VA v := all_two (va_t _) (va_n b (by omega))
  refine c19N 22 ofA [vT (upT b n), vN b] (some ⟨g, 0, none⟩) c n _ hn (by simp) (by simp) hx (fun v hv w' => c44A v (hva v hv) w') enters22 ?_
  intro W A' c' hW hI
  refine c22 (fN (floatOfInt FloatKind.f64 (n : Int))) ⟨1, floatOfInt FloatKind.f64 (n : Int), ⟨#[]⟩⟩ _ A' c' W (by simp) (by simp) hI ?_ ?_ (fun W => c45_N _ W)
  · intro i hi
    obtain ⟨v, hv, rfl⟩ := List.mem_map.1 hi
    exact aok_of v (hva v hv)
  · intro W1 p L bs hb1 hl hd
    obtain ⟨x, y, rfl⟩ := two_of L bs (by simpa using hl)
    exact c54 b n L x y (upT b n) (.pointer p) W1 h0 h1 hn (ut_of b n h0 h1 hn) hd
end Go.Proofs.YtkhgaenffnoimaaGreatDoor
