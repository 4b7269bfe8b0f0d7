/- The laws' lists of ints: tiny, numbered, column. -/
import Derived.Test.YtkhgaenffnoimaaGreatDoorM2
set_option linter.unusedSimpArgs false
set_option linter.unusedVariables false
namespace Go.Proofs.YtkhgaenffnoimaaGreatDoor
open Go.RowKit
attribute [local go_sem] run_store_float
/-- A slice at A holds the ints ks. -/
def IRw (w : World) (A : Option Addr) (ks : List Int) : Prop := ks = [] ∨ ∃ g o, A = some ⟨g, o, none⟩ ∧ g < w.heap.size ∧ ∀ (j : Nat) (k : Int), ks[j]? = some k → w.cell? ⟨g, o + j, none⟩ = some (.int .i64 k)
theorem IRw.below {w w1 : World} {A : Option Addr} {ks : List Int} (h : IRw w A ks) (hb : Below w.heap.size w w1) : IRw w1 A ks := by
  rcases h with h | ⟨g, o, rfl, hg, hc⟩
  · exact .inl h
  · exact .inr ⟨g, o, rfl, Nat.lt_of_lt_of_le hg hb.size, fun j k hj => (hb.cell (p := ⟨g, o + j, none⟩) hg).trans (hc j k hj)⟩
theorem IRw.take {w : World} {A : Option Addr} {ks : List Int} (h : IRw w A ks) (n : Nat) : IRw w A (ks.take n) := by
  rcases h with h | ⟨g, o, rfl, hg, hc⟩
  · exact .inl (by rw [h]; simp)
  · exact .inr ⟨g, o, rfl, hg, fun j k hj => hc j k (by
      have hlt := (List.getElem?_eq_some_iff.1 hj).1
      rw [List.length_take] at hlt
      rw [List.getElem?_take_of_lt (by omega)] at hj
      exact hj)⟩
theorem IRw.of {w : World} {A : Option Addr} {ks : List Int} (h : CRow w A 1 (ks.map nI)) : IRw w A ks := by
  rcases h with h | ⟨g, rfl, hg, hc⟩
  · exact .inl (List.map_eq_nil_iff.1 h)
  · exact .inr ⟨g, 0, rfl, hg, fun j k hj => by
      have := hc j (nI k) (by rw [List.getElem?_map, hj]; rfl) 0 _ rfl
      simpa using this⟩
theorem Own.rowc {w0 W : World} {e : TypeId} {sz : Nat} {v : Value} {xs : List (List Value)} (h : Own w0 W e sz v xs) : ∃ A c, v = .slice A xs.length c ∧ CRow W A sz xs ∧ xs.length ≤ c := by
  obtain ⟨A, c, he, hr⟩ := h.row
  refine ⟨A, c, he, hr, ?_⟩
  rcases h.1.2 with ⟨rfl, hn⟩ | ⟨g, cap, cur, rfl, _, _, hc, _⟩
  · omega
  · have := (Value.slice.inj he).2.2
    omega
def tin (k : Int) : Int := Int.tmod k 10000
theorem tin_bound (k : Int) : -9999 ≤ tin k ∧ tin k ≤ 9999 := by
  unfold tin
  have h1 := Int.tmod_lt_of_pos k (b := 10000) (by decide)
  have h2 := Int.tmod_lt_of_pos (-k) (b := 10000) (by decide)
  rw [Int.neg_tmod] at h2
  omega
/-- What the law's tiny makes of a list. -/
def tinies (ks : List Int) : List Int := (ks.take 120).map tin
theorem app22 {ops : Array Oper} {rest : List Oper} {o : Oper} {a : Act} {Q : Exit → Act → World → Prop} {w0 W : World} (v : Value) (xs : List Int) (y : Int) (s x : Operand) (hgd : o.guard = none)
    (ho : o.op = .call { callee := .builtin .append, args := #[s, x], argTypes := #[22, 22] })
    (hs : a.eval s = v) (hx : a.eval x = .slice (some ⟨W.heap.size, 0, none⟩) 1 1)
    (HO : Own w0 W 3 1 v (xs.map nI)) (HB : Below w0.heap.size w0 W) (hl : xs.length ≤ 100000)
    (h : ∀ v1 w1, Own w0 w1 3 1 v1 ((xs ++ [y]).map nI) → Below w0.heap.size w0 w1 → wpList Tryz.prog ops Q rest (a.put o.dst v1) w1) :
    wpList Tryz.prog ops Q (o :: rest) a (W.alloc (.cells #[.int .i64 y] 3)) :=
  app1 (ys := nI y) hgd s x 22 3 _ 1 8 ho under22 info3 rfl (by decide) (by decide) v (xs.map nI) hs hx rfl
    (by intro u hu; simp only [nI, List.mem_cons, List.not_mem_nil, or_false] at hu; subst hu; rfl) HO HB (by rw [List.length_map]; omega) (fun v1 w1 h1 h2 => h v1 w1 (by rw [List.map_append]; exact h1) h2)
theorem app73 {ops : Array Oper} {rest : List Oper} {o : Oper} {a : Act} {Q : Exit → Act → World → Prop} {w0 W : World} (v : Value) (xs : List Int) (y : Int) (s x : Operand) (hgd : o.guard = none)
    (ho : o.op = .call { callee := .builtin .append, args := #[s, x], argTypes := #[73, 73] })
    (hs : a.eval s = v) (hx : a.eval x = .slice (some ⟨W.heap.size, 0, none⟩) 1 1)
    (HO : Own w0 W 75 3 v (xs.map itN)) (HB : Below w0.heap.size w0 W) (hl : xs.length ≤ 100000)
    (h : ∀ v1 w1, Own w0 w1 75 3 v1 ((xs ++ [y]).map itN) → Below w0.heap.size w0 w1 → wpList Tryz.prog ops Q rest (a.put o.dst v1) w1) :
    wpList Tryz.prog ops Q (o :: rest) a (W.alloc (.cells #[.int .i64 1, .int .i64 y, .string ⟨#[]⟩] 75)) :=
  app1 (ys := itN y) hgd s x 73 75 _ 3 32 ho under73 info75 rfl (by decide) (by decide) v (xs.map itN) hs hx rfl
    (by intro u hu; simp only [itN, List.mem_cons, List.not_mem_nil, or_false] at hu; rcases hu with rfl | rfl | rfl <;> rfl) HO HB (by rw [List.length_map]; omega) (fun v1 w1 h1 h2 => h v1 w1 (by rw [List.map_append]; exact h1) h2)
set_option maxRecDepth 100000 in
set_option maxHeartbeats 1000000 in
theorem c7 (ks : List Int) (A : Option Addr) (c : Nat) (w : World) (hl : ks.length ≤ 9223372036854775807) (hx : IRw w A ks) :
    Calls Tryz.prog 7 #[.slice A ks.length c] w (fun e w' => ∃ A' c', e = .returned (.slice A' (tinies ks).length c') ∧ IRw w' A' (tinies ks) ∧ (tinies ks).length ≤ c' ∧ Below w.heap.size w w') := by
  rcases hx with hnil | ⟨g, o, rfl, hg, hc⟩
  · subst hnil
    go_enter Tryz.func7, Tryz.ntmps7
    go_wp2_with fail
    refine wp_loop_rounds 1 ?_
    rw [rounds_succ]
    go_wp2_with fail
    go_ret
    exact ⟨none, 0, rfl, .inl rfl, Nat.le_refl _, (by repeat (first | (with_reducible exact Below.refl _ _) | (with_reducible assumption) | ((with_reducible refine Below.alloc ?_ ?_ _); rotate_left; focus (first | exact Nat.le_refl _ | omega | (simp; done) | (simp; omega))) | ((with_reducible refine Below.setCell ?_ ?_ _); rotate_left; focus (first | exact Nat.le_refl _ | omega | (simp; done) | (simp; omega))) | (with_reducible refine Below.drew ?_) | (with_reducible refine below_drewN ?_ _) | ((with_reducible refine below_via (by assumption) ?_ ?_); focus (first | exact Nat.le_refl _ | omega | (simp; done) | (simp; omega)))))⟩
  · have HC := Lib.hid hc
    clear hc
    obtain ⟨n, hn⟩ : ∃ n, n = ks.length := ⟨_, rfl⟩
    rw [← hn] at hl ⊢
    have HN := Lib.hid hn
    clear hn
    go_enter Tryz.func7, Tryz.ntmps7
    go_wp2_with fail
    go_loopw [3, 4] (fun v i wr => ∃ q : Nat, q ≤ n ∧ q ≤ 120 ∧ i = .int .i64 q ∧ Below w.heap.size w wr ∧ Own w wr 3 1 v (((ks.take q).map tin).map nI)) (fun _ i _ => n - (intOf i).toNat)
    case atStart => exact ⟨0, Nat.zero_le _, Nat.zero_le _, rfl, Below.refl _ _, own_nil _ _ _ _⟩
    case round =>
      obtain ⟨q, hq, hq2, rfl, hb, ho⟩ := hrel
      have HO := Lib.hid ho
      clear ho
      have hwr := hb.size
      by_cases hlt : q < n ∧ q < 120
      · obtain ⟨hl1, hl2⟩ := hlt
        have hkx : q < ks.length := by rw [← HN.out]; exact hl1
        obtain ⟨k, hv⟩ : ∃ k, ks[q]? = some k := ⟨_, List.getElem?_eq_getElem hkx⟩
        have h0 := (hb.cell (p := ⟨g, o + q, none⟩) hg).trans (HC.out q k hv)
        have HV := Lib.hid hv
        clear hv
        go_wp2_with (at_builtin; refine app22 _ ((ks.take q).map tin) (tin k) _ _ rfl rfl rfl rfl HO.out hb (by rw [List.length_map, List.length_take]; omega) ?_; intro v1 w2 ho2 hb2)
        refine ⟨⟨q + 1, by omega, by omega, by simp, hb2, ?_⟩, by simp only [intOf]; omega⟩
        rw [take_succ_of HV.out, List.map_append]
        exact ho2
      · have hq' : (ks.take q).map tin = tinies ks := by
          unfold tinies
          rcases (by omega : q = n ∨ q = 120) with h | h
          · rw [h, HN.out, List.take_length, List.take_of_length_le]
            have := HN.out
            omega
          · rw [h]
        rw [hq'] at HO
        go_wp2_with fail
        all_goals
          go_ret
          obtain ⟨A', c', he, hr, hcc⟩ := HO.out.rowc
          rw [List.length_map] at he hcc
          exact ⟨A', c', by rw [he]; rfl, .of hr, hcc, hb⟩
theorem addr_ne {b o i g : Nat} (h : b ≠ g) : ¬((⟨b, o, none⟩ : Addr) = ⟨g, i, none⟩) := by
  intro hi
  exact h (congrArg Addr.block hi)
set_option maxRecDepth 100000 in
set_option maxHeartbeats 1000000 in
theorem c30 (ks : List Int) (A : Option Addr) (c : Nat) (w : World) (hl : ks.length ≤ 120) (h0 : 0 < ks.length) (hkk : ∀ k, k ∈ ks → -9999 ≤ k ∧ k ≤ 9999) (hx : IRw w A ks) :
    Calls Tryz.prog 30 #[.slice A ks.length c, .int .i64 0] w (fun e w' => ∃ A' c', e = .returned (.agg #[.int .i64 5, .int .i64 0, .int .i64 0, .string ⟨#[]⟩, .slice A' ks.length c']) ∧ ColB w.heap.size w' A' 5 (ks.map fun k => (vN k).cells) ∧ Below w.heap.size w w') := by
  rcases hx with h | ⟨g, o, rfl, hg, hc⟩
  · rw [h] at h0
    cases h0
  have HC := Lib.hid hc
  have H49 := Lib.hid (fun A' c' W h => c49 ks A' c' W hl h0 hkk h)
  clear hc hkk
  obtain ⟨n, hn⟩ : ∃ n, n = ks.length := ⟨_, rfl⟩
  rw [← hn] at hl h0 H49 ⊢
  have HN := Lib.hid hn
  clear hn
  go_enter Tryz.func30, Tryz.ntmps30
  go_wp2_with fail
  have HZ := Lib.hid (zcell_new w)
  have hbA : Below w.heap.size w (w.alloc (.cells #[.int .i64 0, .int .i64 0, .int .i64 0, .string ⟨#[]⟩, .slice none 0 0] 32)) := (by repeat (first | (with_reducible exact Below.refl _ _) | (with_reducible assumption) | ((with_reducible refine Below.alloc ?_ ?_ _); rotate_left; focus (first | exact Nat.le_refl _ | omega | (simp; done) | (simp; omega))) | ((with_reducible refine Below.setCell ?_ ?_ _); rotate_left; focus (first | exact Nat.le_refl _ | omega | (simp; done) | (simp; omega))) | (with_reducible refine Below.drew ?_) | (with_reducible refine below_drewN ?_ _) | ((with_reducible refine below_via (by assumption) ?_ ?_); focus (first | exact Nat.le_refl _ | omega | (simp; done) | (simp; omega)))))
  have hsA : (w.alloc (.cells #[.int .i64 0, .int .i64 0, .int .i64 0, .string ⟨#[]⟩, .slice none 0 0] 32)).heap.size = w.heap.size + 1 := by simp
  generalize (w.alloc (.cells #[.int .i64 0, .int .i64 0, .int .i64 0, .string ⟨#[]⟩, .slice none 0 0] 32)) = W0 at HZ hbA hsA ⊢
  go_loopw [5, 6] (fun v i wr => ∃ q : Nat, q ≤ n ∧ i = .int .i64 q ∧ Below W0.heap.size W0 wr ∧ Own W0 wr 75 3 v ((ks.take q).map itN)) (fun _ i _ => n - (intOf i).toNat)
  case atStart => exact ⟨0, Nat.zero_le _, rfl, Below.refl _ _, own_nil _ _ _ _⟩
  case round =>
    obtain ⟨q, hq, rfl, hb, ho⟩ := hrel
    have HO := Lib.hid ho
    clear ho
    have hwr := hb.size
    by_cases hlt : q < n
    · have hkx : q < ks.length := by rw [← HN.out]; exact hlt
      obtain ⟨k, hv⟩ : ∃ k, ks[q]? = some k := ⟨_, List.getElem?_eq_getElem hkx⟩
      have hbw : Below w.heap.size w wr := hbA.trans (hb.mono (by omega))
      have h0 := (hbw.cell (p := ⟨g, o + q, none⟩) hg).trans (HC.out q k hv)
      have HV := Lib.hid hv
      clear hv
      go_wp2_with (at_builtin; refine app73 _ (ks.take q) k _ _ rfl rfl rfl rfl HO.out hb (by rw [List.length_take]; omega) ?_; intro v1 w2 ho2 hb2)
      refine ⟨⟨q + 1, by omega, by simp, hb2, ?_⟩, by simp only [intOf]; omega⟩
      rw [take_succ_of HV.out]
      exact ho2
    · have hqn : q = n := by omega
      subst hqn
      obtain ⟨A', c', rfl, hr⟩ := HO.out.row
      have htk : List.take q ks = ks := by rw [HN.out, List.take_length]
      have hln : (List.map itN (List.take q ks)).length = q := by rw [List.length_map, List.length_take]; have := HN.out; omega
      rw [hln]
      rw [htk] at hr
      clear hln
      have HR := Lib.hid hr
      clear hr
      have HZ4 : ZCell wr w.heap.size := HZ.out.below HZ.out.lt hb
      have HZq := Lib.hid HZ4
      obtain ⟨hzl, z0, z1, z2, z3, z4, hfr⟩ := HZ4
      go_wp2_with (go_at_call 49; refine (H49.out A' c' _ HR.out).mono ?_; rintro e w4 ⟨A4, c4, rfl, hcol, hb4⟩; have HCO := Lib.hid hcol; clear hcol; have HZ5 := HZq.out.below hzl hb4; clear hzl z0 z1 z2 z3 z4 hfr; obtain ⟨hzl, z0, z1, z2, z3, z4, hfr⟩ := HZ5)
      have hbf : Below w.heap.size w w4 := hbA.trans ((hb.trans (hb4.mono (by have := hb.size; omega))).mono (by omega))
      refine bodyPost_ret (v := .agg #[.int .i64 5, .int .i64 0, .int .i64 0, .string ⟨#[]⟩, .slice A4 q c4]) (by first | (simp [results, Tryz.results30, go_sem]; done) | (simp [results, Tryz.results30, go_sem, *]; done)) rfl ⟨A4, c4, rfl, ?_, (by repeat (first | (with_reducible exact Below.refl _ _) | (with_reducible assumption) | ((with_reducible refine Below.alloc ?_ ?_ _); rotate_left; focus (first | exact Nat.le_refl _ | omega | (simp; done) | (simp; omega))) | ((with_reducible refine Below.setCell ?_ ?_ _); rotate_left; focus (first | exact Nat.le_refl _ | omega | (simp; done) | (simp; omega))) | (with_reducible refine Below.drew ?_) | (with_reducible refine below_drewN ?_ _) | ((with_reducible refine below_via (by assumption) ?_ ?_); focus (first | exact Nat.le_refl _ | omega | (simp; done) | (simp; omega)))))⟩
      refine HCO.out.step (by omega) (by simp) ?_
      intro b o hb1 hb2
      have hne' : ¬ (w.heap.size = b) := by omega
      have hne := fun i : Nat => addr_ne (o := o) (i := i) (Ne.symm hne')
      simp [go_sem, hne, hne']
set_option maxRecDepth 100000 in
set_option maxHeartbeats 1000000 in
theorem c10 (ks : List Int) (A : Option Addr) (c : Nat) (w : World) (hl : ks.length ≤ 120) (h0 : 0 < ks.length) (hkk : ∀ k, k ∈ ks → -9999 ≤ k ∧ k ≤ 9999) (hx : IRw w A ks) :
    Calls Tryz.prog 10 #[.slice A ks.length c] w (fun e w' => ∃ A' c', e = .returned (.agg #[.int .i64 5, .int .i64 0, .int .i64 0, .string ⟨#[]⟩, .slice A' ks.length c']) ∧ ColB w.heap.size w' A' 5 (ks.map fun k => (vN k).cells) ∧ Below w.heap.size w w') := by
  have H30 := Lib.hid (fun W h => c30 ks A c W hl h0 hkk h)
  obtain ⟨n, hn⟩ : ∃ n, n = ks.length := ⟨_, rfl⟩
  rw [← hn] at hl h0 H30 ⊢
  clear hn hkk
  have HX := Lib.hid hx
  clear hx
  go_enter Tryz.func10, Tryz.ntmps10
  go_wp2_with fail
  have HZ := Lib.hid (zcell_new w)
  have hbA : Below w.heap.size w (w.alloc (.cells #[.int .i64 0, .int .i64 0, .int .i64 0, .string ⟨#[]⟩, .slice none 0 0] 32)) := (by repeat (first | (with_reducible exact Below.refl _ _) | (with_reducible assumption) | ((with_reducible refine Below.alloc ?_ ?_ _); rotate_left; focus (first | exact Nat.le_refl _ | omega | (simp; done) | (simp; omega))) | ((with_reducible refine Below.setCell ?_ ?_ _); rotate_left; focus (first | exact Nat.le_refl _ | omega | (simp; done) | (simp; omega))) | (with_reducible refine Below.drew ?_) | (with_reducible refine below_drewN ?_ _) | ((with_reducible refine below_via (by assumption) ?_ ?_); focus (first | exact Nat.le_refl _ | omega | (simp; done) | (simp; omega)))))
  have hsA : (w.alloc (.cells #[.int .i64 0, .int .i64 0, .int .i64 0, .string ⟨#[]⟩, .slice none 0 0] 32)).heap.size = w.heap.size + 1 := by simp
  generalize (w.alloc (.cells #[.int .i64 0, .int .i64 0, .int .i64 0, .string ⟨#[]⟩, .slice none 0 0] 32)) = W0 at HZ hbA hsA ⊢
  refine (H30.out W0 (HX.out.below hbA)).mono ?_
  rintro e w4 ⟨A4, c4, rfl, hcol, hb4⟩
  have HCO := Lib.hid hcol
  clear hcol
  obtain ⟨hzl, z0, z1, z2, z3, z4, hfr⟩ := HZ.out.below HZ.out.lt hb4
  have hbf : Below w.heap.size w w4 := hbA.trans (hb4.mono (by omega))
  go_wp2_with fail
  refine bodyPost_ret (v := .agg #[.int .i64 5, .int .i64 0, .int .i64 0, .string ⟨#[]⟩, .slice A4 n c4]) (by first | (simp [results, Tryz.results10, go_sem]; done) | (simp [results, Tryz.results10, go_sem, *]; done)) rfl ⟨A4, c4, rfl, ?_, (by repeat (first | (with_reducible exact Below.refl _ _) | (with_reducible assumption) | ((with_reducible refine Below.alloc ?_ ?_ _); rotate_left; focus (first | exact Nat.le_refl _ | omega | (simp; done) | (simp; omega))) | ((with_reducible refine Below.setCell ?_ ?_ _); rotate_left; focus (first | exact Nat.le_refl _ | omega | (simp; done) | (simp; omega))) | (with_reducible refine Below.drew ?_) | (with_reducible refine below_drewN ?_ _) | ((with_reducible refine below_via (by assumption) ?_ ?_); focus (first | exact Nat.le_refl _ | omega | (simp; done) | (simp; omega)))))⟩
  refine HCO.out.step (by omega) (by simp) ?_
  intro b o hb1 hb2
  have hne' : ¬ (w.heap.size = b) := by omega
  have hne := fun i : Nat => addr_ne (o := o) (i := i) (Ne.symm hne')
  simp [go_sem, hne, hne']
end Go.Proofs.YtkhgaenffnoimaaGreatDoor
