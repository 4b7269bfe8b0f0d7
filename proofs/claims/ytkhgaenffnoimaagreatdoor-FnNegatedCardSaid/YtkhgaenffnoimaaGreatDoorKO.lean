/- all, in: a table of numbers and a text. -/
import Derived.Test.YtkhgaenffnoimaaGreatDoorM8
set_option linter.unusedSimpArgs false
set_option linter.unusedVariables false
namespace Go.Proofs.YtkhgaenffnoimaaGreatDoor
open Go.RowKit
attribute [local go_sem] run_store_float
/-- Block g holds a matrix of the implementation and a text behind it. -/
structure MTRow (w : World) (g : Nat) (A : Option Addr) (n c : Nat) (xs : List (List Value)) (s : ByteArray) : Prop where
  m : MRow w g A n c xs
  t0 : w.cell? ⟨g, 4, none⟩ = some (.int .i64 2)
  t1 : w.cell? ⟨g, 5, none⟩ = some (.float .f64 0)
  t2 : w.cell? ⟨g, 6, none⟩ = some (.string s)
  t3 : w.cell? ⟨g, 7, none⟩ = some (.slice none 0 0)
theorem MTRow.below {w w1 : World} {g : Nat} {A : Option Addr} {n c : Nat} {xs : List (List Value)} {s : ByteArray} (h : MTRow w g A n c xs s) (hb : Below w.heap.size w w1) : MTRow w1 g A n c xs s :=
  ⟨h.m.below hb, (hb.cell (p := ⟨g, _, none⟩) h.m.lt).trans h.t0, (hb.cell (p := ⟨g, _, none⟩) h.m.lt).trans h.t1, (hb.cell (p := ⟨g, _, none⟩) h.m.lt).trans h.t2, (hb.cell (p := ⟨g, _, none⟩) h.m.lt).trans h.t3⟩
theorem mtrow_of {w : World} {g : Nat} {A : Option Addr} {n c : Nat} {xs : List (List Value)} {s : ByteArray} (hlt : g < w.heap.size) (hlen : n = xs.length) (hcol : Col w A 4 xs)
    (hc : ∀ (j : Nat) (c0 : List Value), [[Value.int .i64 5, .float .f64 0, .string ⟨#[]⟩, .slice A n c], [.int .i64 2, .float .f64 0, .string s, .slice none 0 0]][j]? = some c0 → ∀ (i : Nat) (u : Value), c0[i]? = some u → w.cell? ⟨g, j * 4 + i, none⟩ = some u) : MTRow w g A n c xs s := by
  refine ⟨⟨hlt, ?_, ?_, ?_, ?_, hlen, hcol⟩, ?_, ?_, ?_, ?_⟩
  · simpa using hc 0 _ rfl 0 _ rfl
  · simpa using hc 0 _ rfl 1 _ rfl
  · simpa using hc 0 _ rfl 2 _ rfl
  · simpa using hc 0 _ rfl 3 _ rfl
  · simpa using hc 1 _ rfl 0 _ rfl
  · simpa using hc 1 _ rfl 1 _ rfl
  · simpa using hc 1 _ rfl 2 _ rfl
  · simpa using hc 1 _ rfl 3 _ rfl
theorem oneC (a b c d : Value) (ha : a.oneCell' = true) (hb : b.oneCell' = true) (hc : c.oneCell' = true) (hd : d.oneCell' = true) : ∀ u ∈ [a, b, c, d], u.oneCell' = true := by
  intro u hu
  simp only [List.mem_cons, List.not_mem_nil, or_false] at hu
  rcases hu with rfl | rfl | rfl | rfl <;> assumption
set_option maxRecDepth 100000 in
set_option maxHeartbeats 1000000 in
theorem c26MT (ks : List Int) (s : ByteArray) (A : Option Addr) (c g : Nat) (w : World) (hl : ks.length ≤ 120) (h0 : 0 < ks.length) (hkk : ∀ k, k ∈ ks → -9999 ≤ k ∧ k ≤ 9999) (hx : Col w A 5 (ks.map fun k => (vN k).cells))
    (hg : g < w.heap.size) (e0 : w.cell? ⟨g, 0, none⟩ = some (.int .i64 5)) (e1 : w.cell? ⟨g, 1, none⟩ = some (.int .i64 0)) (e2 : w.cell? ⟨g, 2, none⟩ = some (.int .i64 0)) (e3 : w.cell? ⟨g, 3, none⟩ = some (.string ⟨#[]⟩)) (e4 : w.cell? ⟨g, 4, none⟩ = some (.slice A ks.length c))
    (e5 : w.cell? ⟨g, 5, none⟩ = some (.int .i64 2)) (e6 : w.cell? ⟨g, 6, none⟩ = some (.int .i64 0)) (e7 : w.cell? ⟨g, 7, none⟩ = some (.int .i64 0)) (e8 : w.cell? ⟨g, 8, none⟩ = some (.string s)) (e9 : w.cell? ⟨g, 9, none⟩ = some (.slice none 0 0)) :
    Calls Tryz.prog 26 #[.slice (some ⟨g, 0, none⟩) 2 2] w (fun e w' => ∃ (g1 c1 : Nat) (A' : Option Addr) (c' : Nat), e = .returned (.slice (some ⟨g1, 0, none⟩) 2 c1) ∧ MTRow w' g1 A' ks.length c' (ks.map fun k => (iN k).cells) s ∧ Below w.heap.size w w') := by
  have H44 := Lib.hid (c44M ks A c w hl h0 hkk hx)
  have HN : Hid (ks.length = (ks.map fun k => (iN k).cells).length) := Lib.hid (by rw [List.length_map])
  obtain ⟨n, hn⟩ : ∃ n, n = ks.length := ⟨_, rfl⟩
  rw [← hn] at hl h0 e4 H44 HN ⊢
  clear hn hx hkk
  go_enter Tryz.func26, Tryz.ntmps26
  go_wp2_with fail
  refine wp_loop_rounds 3 ?_
  rw [rounds_succ]
  go_wp2_with (first
    | (go_at_call 44; refine (H44.out).mono ?_; rintro e w1 ⟨A1, c1, rfl, hcol, hb1⟩; have HCO := Lib.hid hcol.col; clear hcol)
    | (at_builtin; refine appB w1.heap.size (Nat.le_refl _) rfl _ _ 47 27 _ 4 56 rfl under47 info27 rfl (by decide) (by decide) _ [] [.int .i64 5, .float .f64 0, .string ⟨#[]⟩, .slice A1 n c1] rfl (by first | rfl | (change Value.slice (some ⟨_, 0, none⟩) 1 1 = _; simp [World.setCell])) rfl (oneC _ _ _ _ rfl rfl rfl rfl) (ownB_nil _ _ _ _) (by decide) ?_; intro v1 w3 ho1 hb3 hk3 hz3))
  have hb13 : Below w.heap.size w w3 := keepS hb3 hb1
  have HO1 := Lib.hid ho1
  have d5 := (hb13.cell (p := ⟨g, 5, none⟩) hg).trans e5
  have d6 := (hb13.cell (p := ⟨g, 6, none⟩) hg).trans e6
  have d7 := (hb13.cell (p := ⟨g, 7, none⟩) hg).trans e7
  have d8 := (hb13.cell (p := ⟨g, 8, none⟩) hg).trans e8
  have d9 := (hb13.cell (p := ⟨g, 9, none⟩) hg).trans e9
  have hg3 : g < w3.heap.size := Nat.lt_of_lt_of_le hg hb13.size
  clear ho1 hk3 e0 e1 e2 e3 e4 e5 e6 e7 e8 e9
  rw [rounds_succ]
  go_wp2_with fail
  refine (c44_2 0 0 s w3).mono ?_
  rintro e w4 ⟨rfl, hb4⟩
  have hs4 := hb4.size
  have HO4 := Lib.hid (HO1.out.below hb4)
  go_wp2_with (at_builtin; refine appB w1.heap.size (by omega) rfl _ _ 47 27 _ 4 56 rfl under47 info27 rfl (by decide) (by decide) v1 _ [.int .i64 2, .float .f64 0, .string s, .slice none 0 0] rfl (by first | rfl | (change Value.slice (some ⟨_, 0, none⟩) 1 1 = _; simp [World.setCell])) rfl (oneC _ _ _ _ rfl rfl rfl rfl) HO4.out (by simp) ?_; intro v5 w5 ho5 hb5 hk5 hz5)
  have hb15 : Below w1.heap.size w1 w5 := (hb3.trans (hb4.mono (by omega))).trans hb5
  have hbf : Below w.heap.size w w5 := hb1.trans (hb15.mono hb1.size)
  obtain ⟨A5, c5, rfl, hr5⟩ := ho5.row
  have HR := Lib.hid hr5
  clear ho5 hk5 hr5
  rw [rounds_succ]
  go_wp2_with fail
  go_ret
  rcases HR.out with h | ⟨g5, rfl, hg5, hc5⟩
  · cases h
  · exact ⟨g5, c5, A1, c1, rfl, mtrow_of hg5 HN.out (HCO.out.below hb15) hc5, hbf⟩
end Go.Proofs.YtkhgaenffnoimaaGreatDoor
