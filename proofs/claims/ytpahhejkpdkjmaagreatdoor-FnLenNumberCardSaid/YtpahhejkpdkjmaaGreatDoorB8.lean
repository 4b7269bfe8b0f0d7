/- texts of a list. -/
import Derived.Test.YtpahhejkpdkjmaaGreatDoorB7
import Derived.Deep.RegionWith
set_option linter.unusedSimpArgs false
set_option linter.unusedVariables false
namespace Go.Proofs.YtpahhejkpdkjmaaGreatDoor
open Go.RowKit
attribute [local go_sem] run_store_float
theorem under34 : Tryz.prog.underlying 34 = some (.slice 9) := by kernel_rfl
theorem info9 : (Tryz.prog.info? 9).map (fun i => (i.zero, i.size, i.bytes)) = some (some (.string ⟨#[]⟩), 1, 16) := by kernel_rfl
theorem app34 {ops : Array Oper} {rest : List Oper} {o : Oper} {a : Act} {Q : Exit → Act → World → Prop} {w0 W : World} (v : Value) (xs : List (List Value)) (y : ByteArray) (s x : Operand) (hgd : o.guard = none)
    (ho : o.op = .call { callee := .builtin .append, args := #[s, x], argTypes := #[34, 34] })
    (hs : a.eval s = v) (hx : a.eval x = .slice (some ⟨W.heap.size, 0, none⟩) 1 1)
    (HO : Own w0 W 9 1 v xs) (HB : Below w0.heap.size w0 W) (hl : xs.length ≤ 100000)
    (h : ∀ v1 w1, Own w0 w1 9 1 v1 (xs ++ [[.string y]]) → Below w0.heap.size w0 w1 → wpList Tryz.prog ops Q rest (a.put o.dst v1) w1) :
    wpList Tryz.prog ops Q (o :: rest) a (W.alloc (.cells #[.string y] 9)) :=
  app1 (ys := [.string y]) hgd s x 34 9 _ 1 16 ho under34 info9 rfl (by decide) (by decide) v xs hs hx rfl
    (by intro u hu; simp only [List.mem_cons, List.not_mem_nil, or_false] at hu; rcases hu with rfl; rfl)
    HO HB (by omega) h
/-- y is the text of v, or Doubt. -/
def As (txt : V → ByteArray) (v y : V) : Prop := (y.k = 2 ∧ y.t = txt v) ∨ y = VD
def AsV (txt : V → ByteArray) (v : V) (r : Value) : Prop := ∃ y : V, r = .agg #[.int .i64 y.k, .int .i64 y.n, .int .i64 y.d, .string y.t, .slice none 0 0] ∧ As txt v y
theorem CRow.setCell {w : World} {A : Option Addr} {sz : Nat} {xs : List (List Value)} (h : CRow w A sz xs) {p : Addr} (hne : ∀ g, A = some ⟨g, 0, none⟩ → p.block ≠ g) (u : Value) : CRow (w.setCell p u) A sz xs := by
  rcases h with h | ⟨g, rfl, hg, hc⟩
  · exact .inl h
  · exact .inr ⟨g, rfl, by simpa [World.setCell] using hg, fun j c hj i u' hi => by
      rw [World.cell?_setCell_other w _ _ _ (fun he => hne g rfl (by first | rw [he] | rw [← he]))]
      exact hc j c hj i u' hi⟩
def tcell (s : ByteArray) : List Value := [.string s]
def TextsP (w : World) (xs : List V) (txt : V → ByteArray) (e : Ending) (w' : World) : Prop := Below w.heap.size w w' ∧
  ((∃ (A : Option Addr) (c : Nat) (u : V), e = .returned (.tuple #[.slice A xs.length c, .agg #[.int .i64 u.k, .int .i64 u.n, .int .i64 u.d, .string u.t, .slice none 0 0], .bool true]) ∧ CRow w' A 1 (xs.map fun v => tcell (txt v))) ∨
   e = .returned (.tuple #[.slice none 0 0, .agg #[.int .i64 6, .int .i64 0, .int .i64 0, .string ⟨#[]⟩, .slice none 0 0], .bool false]))
theorem asl_push {txt : V → ByteArray} {xs ys : List V} {k : Nat} {v y : V} (hl : ys.length = k) (h : ∀ (j : Nat) (y : V), ys[j]? = some y → ∃ v, xs[j]? = some v ∧ As txt v y) (hv : xs[k]? = some v) (hy : As txt v y) :
    ∀ (j : Nat) (z : V), (ys ++ [y])[j]? = some z → ∃ v, xs[j]? = some v ∧ As txt v z := by
  intro j z hz
  by_cases hj : j < ys.length
  · rw [List.getElem?_append_left hj] at hz
    exact h j z hz
  · have hlt := (List.getElem?_eq_some_iff.1 hz).1
    rw [List.length_append, List.length_cons, List.length_nil] at hlt
    obtain rfl : j = k := by omega
    rw [List.getElem?_append_right (by omega), hl, Nat.sub_self] at hz
    cases hz
    exact ⟨v, hv, hy⟩
set_option maxRecDepth 100000 in
set_option maxHeartbeats 4000000 in
theorem c208 (txt : V → ByteArray) (xs : List V) (A : Option Addr) (c : Nat) (w : World) (hl : xs.length ≤ 1000) (h0 : 0 < xs.length) (hx : VRow w A xs)
    (hT : ∀ v, v ∈ xs → ∀ w', Calls Tryz.prog 149 #[.agg #[.int .i64 v.k, .int .i64 v.n, .int .i64 v.d, .string v.t, .slice none 0 0]] w' (RetV w' (AsV txt v))) :
    Calls Tryz.prog 208 #[.slice A xs.length c] w (TextsP w xs txt) := by
  obtain ⟨n, hn⟩ : ∃ n, n = xs.length := ⟨_, rfl⟩
  rw [← hn] at hl h0 ⊢
  have HN := Lib.hid hn
  clear hn
  have HT := Lib.hid hT
  clear hT
  go_enter Tryz.func208, Tryz.ntmps208
  go_wp2_with fail
  generalize hW : World.alloc w _ = W0
  have hbW : Below w.heap.size w W0 := by rw [← hW]; exact (by repeat (first | (with_reducible exact Below.refl _ _) | (with_reducible assumption) | ((with_reducible refine Below.alloc ?_ ?_ _); rotate_left; focus (first | exact Nat.le_refl _ | omega | (simp; done) | (simp; omega))) | ((with_reducible refine Below.setCell ?_ ?_ _); rotate_left; focus (first | exact Nat.le_refl _ | omega | (simp; done) | (simp; omega))) | (with_reducible refine Below.drew ?_) | (with_reducible refine below_drewN ?_ _) | ((with_reducible refine below_via (by assumption) ?_ ?_); focus (first | exact Nat.le_refl _ | omega | (simp; done) | (simp; omega)))))
  have hsW : W0.heap.size = w.heap.size + 1 := by rw [← hW]; simp
  have z0 : W0.cell? ⟨w.heap.size, 0, none⟩ = some (.int .i64 0) := by rw [← hW]; simp [go_sem]
  have z1 : W0.cell? ⟨w.heap.size, 1, none⟩ = some (.int .i64 0) := by rw [← hW]; simp [go_sem]
  have z2 : W0.cell? ⟨w.heap.size, 2, none⟩ = some (.int .i64 0) := by rw [← hW]; simp [go_sem]
  have z3 : W0.cell? ⟨w.heap.size, 3, none⟩ = some (.string ⟨#[]⟩) := by rw [← hW]; simp [go_sem]
  have z4 : W0.cell? ⟨w.heap.size, 4, none⟩ = some (.slice none 0 0) := by rw [← hW]; simp [go_sem]
  have y0 : W0.frozen? ⟨w.heap.size, 0, none⟩ = false := by rw [← hW]; simp [go_sem]
  have y1 : W0.frozen? ⟨w.heap.size, 1, none⟩ = false := by rw [← hW]; simp [go_sem]
  have y2 : W0.frozen? ⟨w.heap.size, 2, none⟩ = false := by rw [← hW]; simp [go_sem]
  have y3 : W0.frozen? ⟨w.heap.size, 3, none⟩ = false := by rw [← hW]; simp [go_sem]
  have y4 : W0.frozen? ⟨w.heap.size, 4, none⟩ = false := by rw [← hW]; simp [go_sem]
  have HX := Lib.hid (hx.below hbW)
  clear hx
  clear hW
  go_loopw [5, 6] (fun v i wr => ∃ (k : Nat) (ys : List V), k ≤ n ∧ i = .int .i64 k ∧ ys.length = k ∧ Below W0.heap.size W0 wr ∧ Own W0 wr 27 5 v (ys.map V.cells) ∧ ∀ (j : Nat) (y : V), ys[j]? = some y → ∃ v, xs[j]? = some v ∧ As txt v y) (fun _ i _ => n - (intOf i).toNat)
  case atStart => exact ⟨0, [], Nat.zero_le _, rfl, rfl, Below.refl _ _, own_nil _ _ _ _, fun j y h => by simp at h⟩
  case round =>
    obtain ⟨k, ys, hk, rfl, hy, hb, ho, ha⟩ := hrel
    have HO := Lib.hid ho
    have HA := Lib.hid ha
    clear ho ha
    have hwr := hb.size
    by_cases hlt : k < n
    · have hkx : k < xs.length := by rw [← HN.out]; exact hlt
      obtain ⟨v, hv⟩ : ∃ v, xs[k]? = some v := ⟨_, List.getElem?_eq_getElem hkx⟩
      have hvm : v ∈ xs := List.mem_of_getElem? hv
      rcases HX.out with h | ⟨g, rfl, hg, hc⟩
      · rw [h] at hkx; simp at hkx
      obtain ⟨h0, h1, h2, h3, h4⟩ := (hc k v hv).below hb hg
      have HV := Lib.hid hv
      clear hv hc
      go_wp2_with (first
        | (go_at_call 149; refine (HT.out v hvm _).mono ?_; rintro e w1 ⟨_, rfl, ⟨y, rfl, hr⟩, hb1⟩; have HR := Lib.hid hr; clear hr)
        | (at_builtin; refine app27 _ ys y _ _ rfl rfl rfl rfl (HO.out.below hb1) (keepS hb1 hb) (by omega) ?_; intro v1 w2 ho2 hb2))
      go_roundw
      case rel => exact ⟨k + 1, ys ++ [y], by omega, by go_num, by simp [hy], hb2, ho2, asl_push hy HA.out HV.out HR.out⟩
      case measure => simp [intOf]; omega
    · have hk' : k = n := by omega
      obtain ⟨A1, c1, hv1, hr1⟩ := HO.out.row
      rw [List.length_map, hy, hk'] at hv1
      subst hv1
      have HY0 := hr1.vrow
      obtain ⟨g, rfl⟩ : ∃ g, A1 = some ⟨g, 0, none⟩ := by
        rcases HY0 with h | ⟨g, h, _⟩
        · rw [h] at hy; simp at hy; omega
        · exact ⟨g, h⟩
      clear HY0
      have HY : Hid (VRow wr (some ⟨g, 0, none⟩) ys) := Lib.hid hr1.vrow
      have hyas : ∀ y, y ∈ ys → ∃ v, As txt v y := fun y hy' => by
        obtain ⟨j, hj⟩ := List.getElem?_of_mem hy'
        obtain ⟨v, _, h⟩ := HA.out j y hj
        exact ⟨v, h⟩
      have hcall := c203 ys _ c1 wr (by omega) HY.out (fun y hy' => by
        obtain ⟨v, h | h⟩ := hyas y hy'
        · rw [h.1]; decide
        · rw [h]; decide)
      rw [show ys.length = n by omega] at hcall
      have HC := Lib.hid hcall
      have HYA := Lib.hid hyas
      clear hcall hyas hr1
      go_wp2_with fail
      refine HC.out.mono ?_
      rintro e w1 ⟨_, rfl, ⟨u, b, rfl, hr⟩, hb1⟩
      have hsz : w.heap.size < w1.heap.size := by have := hb1.size; omega
      have hbw : Below W0.heap.size W0 w1 := keepS hb1 hb
      have q0 := (hbw.cell (p := ⟨w.heap.size, 0, none⟩) (by show w.heap.size < _; omega)).trans z0
      have q1 := (hbw.cell (p := ⟨w.heap.size, 1, none⟩) (by show w.heap.size < _; omega)).trans z1
      have q2 := (hbw.cell (p := ⟨w.heap.size, 2, none⟩) (by show w.heap.size < _; omega)).trans z2
      have q3 := (hbw.cell (p := ⟨w.heap.size, 3, none⟩) (by show w.heap.size < _; omega)).trans z3
      have q4 := (hbw.cell (p := ⟨w.heap.size, 4, none⟩) (by show w.heap.size < _; omega)).trans z4
      have r0 := (hbw.frozen (p := ⟨w.heap.size, 0, none⟩) (by show w.heap.size < _; omega)).trans y0
      have r1 := (hbw.frozen (p := ⟨w.heap.size, 1, none⟩) (by show w.heap.size < _; omega)).trans y1
      have r2 := (hbw.frozen (p := ⟨w.heap.size, 2, none⟩) (by show w.heap.size < _; omega)).trans y2
      have r3 := (hbw.frozen (p := ⟨w.heap.size, 3, none⟩) (by show w.heap.size < _; omega)).trans y3
      have r4 := (hbw.frozen (p := ⟨w.heap.size, 4, none⟩) (by show w.heap.size < _; omega)).trans y4
      have HR := Lib.hid hr
      clear hr
      cases b
      · have hall : ∀ y, y ∈ ys → y.k = 2 := fun y hy' => by
          obtain ⟨v, h | h⟩ := HYA.out y hy'
          · exact h.1
          · exact absurd (by rw [h]; rfl) (HR.out.1 rfl y hy').1
        have HAL := Lib.hid hall
        clear hall
        go_wp2_with fail
        generalize hW : World.alloc w1 _ = W2
        have hb2 : Below w1.heap.size w1 W2 := by rw [← hW]; exact (Below.refl _ _).alloc (Nat.le_refl _) _
        have hsW2 : W2.heap.size = w1.heap.size + 1 := by rw [← hW]; simp
        have hY2 : VRow W2 (some ⟨g, 0, none⟩) ys := (HY.out.below hb1).below hb2
        have hbF : Below w.heap.size w W2 := below_then (below_then hbW (by omega) hbw) (by omega) hb2
        have HQ : Hid ((W2.cell? ⟨w.heap.size, 0, none⟩ = some (.int .i64 0) ∧ W2.cell? ⟨w.heap.size, 1, none⟩ = some (.int .i64 0) ∧ W2.cell? ⟨w.heap.size, 2, none⟩ = some (.int .i64 0) ∧ W2.cell? ⟨w.heap.size, 3, none⟩ = some (.string ⟨#[]⟩) ∧ W2.cell? ⟨w.heap.size, 4, none⟩ = some (.slice none 0 0)) ∧
            (W2.frozen? ⟨w.heap.size, 0, none⟩ = false ∧ W2.frozen? ⟨w.heap.size, 1, none⟩ = false ∧ W2.frozen? ⟨w.heap.size, 2, none⟩ = false ∧ W2.frozen? ⟨w.heap.size, 3, none⟩ = false ∧ W2.frozen? ⟨w.heap.size, 4, none⟩ = false)) := Lib.hid
          ⟨⟨(hb2.cell (p := ⟨_, _, none⟩) hsz).trans q0, (hb2.cell (p := ⟨_, _, none⟩) hsz).trans q1, (hb2.cell (p := ⟨_, _, none⟩) hsz).trans q2, (hb2.cell (p := ⟨_, _, none⟩) hsz).trans q3, (hb2.cell (p := ⟨_, _, none⟩) hsz).trans q4⟩,
           ⟨(hb2.frozen (p := ⟨_, _, none⟩) hsz).trans r0, (hb2.frozen (p := ⟨_, _, none⟩) hsz).trans r1, (hb2.frozen (p := ⟨_, _, none⟩) hsz).trans r2, (hb2.frozen (p := ⟨_, _, none⟩) hsz).trans r3, (hb2.frozen (p := ⟨_, _, none⟩) hsz).trans r4⟩⟩
        clear q0 q1 q2 q3 q4 r0 r1 r2 r3 r4 z0 z1 z2 z3 z4 y0 y1 y2 y3 y4 hW HC HR HT HX hb1 hbw hb2
        have HY2 := Lib.hid hY2
        clear hY2
        go_loopw [9, 10] (fun v i wr => ∃ (k : Nat), k ≤ n ∧ i = .int .i64 k ∧ Below W2.heap.size W2 wr ∧ Own W2 wr 9 1 v ((xs.take k).map fun v => tcell (txt v))) (fun _ i _ => n - (intOf i).toNat)
        case atStart => exact ⟨0, Nat.zero_le _, rfl, Below.refl _ _, own_nil _ _ _ _⟩
        case round =>
          obtain ⟨j, hj, rfl, hbj, hoj⟩ := hrel
          have HOJ := Lib.hid hoj
          clear hoj
          have hwr2 := hbj.size
          by_cases hlt : j < n
          · have hjx : j < ys.length := by omega
            obtain ⟨y, hyj⟩ : ∃ y, ys[j]? = some y := ⟨_, List.getElem?_eq_getElem hjx⟩
            have hym : y ∈ ys := List.mem_of_getElem? hyj
            obtain ⟨v, hvj, hasv⟩ := HA.out j y hyj
            have htx : y.t = txt v := by
              rcases hasv with h | h
              · exact h.2
              · exact absurd (HAL.out y hym) (by rw [h]; decide)
            have HV := Lib.hid hvj
            have HTX := Lib.hid htx
            rcases HY2.out with h | ⟨g', hA1, hg, hc⟩
            · rw [h] at hjx; simp at hjx
            cases hA1
            obtain ⟨h0, h1, h2, h3, h4⟩ := (hc j y hyj).below hbj hg
            clear hvj hasv htx hc hyj
            obtain ⟨yt, hyt⟩ : ∃ yt, yt = y.t := ⟨_, rfl⟩
            rw [← hyt] at h3
            have HYT := Lib.hid hyt
            clear hyt
            go_wp2_with (at_builtin; refine app34 _ ((xs.take j).map fun v => tcell (txt v)) yt _ _ rfl rfl rfl rfl HOJ.out hbj (by rw [List.length_map, List.length_take]; omega) ?_; intro v1 w2 ho2 hb2)
            go_roundw
            case rel => exact ⟨j + 1, by omega, by go_num, hb2, by rw [take_succ_of HV.out, List.map_append]; show Own _ _ _ _ _ (_ ++ [tcell (txt v)]); rw [← HTX.out, ← HYT.out]; exact ho2⟩
            case measure => simp [intOf]; omega
          · obtain ⟨A2, c2, hv2, hr2⟩ := HOJ.out.row
            have hjn : j = n := by omega
            rw [List.length_map, List.length_take, show min j xs.length = n by have := HN.out; omega] at hv2
            rw [hjn, HN.out, List.take_length] at hr2
            subst hv2
            have hlt2 : w.heap.size < W2.heap.size := by omega
            have hlt3 : w.heap.size < wr.heap.size := by omega
            obtain ⟨⟨p0, p1, p2, p3, p4⟩, ⟨s0, s1, s2, s3, s4⟩⟩ := HQ.out
            have q0 := (hbj.cell (p := ⟨w.heap.size, 0, none⟩) hlt2).trans p0
            have q1 := (hbj.cell (p := ⟨w.heap.size, 1, none⟩) hlt2).trans p1
            have q2 := (hbj.cell (p := ⟨w.heap.size, 2, none⟩) hlt2).trans p2
            have q3 := (hbj.cell (p := ⟨w.heap.size, 3, none⟩) hlt2).trans p3
            have q4 := (hbj.cell (p := ⟨w.heap.size, 4, none⟩) hlt2).trans p4
            have r0 := (hbj.frozen (p := ⟨w.heap.size, 0, none⟩) hlt2).trans s0
            have r1 := (hbj.frozen (p := ⟨w.heap.size, 1, none⟩) hlt2).trans s1
            have r2 := (hbj.frozen (p := ⟨w.heap.size, 2, none⟩) hlt2).trans s2
            have r3 := (hbj.frozen (p := ⟨w.heap.size, 3, none⟩) hlt2).trans s3
            have r4 := (hbj.frozen (p := ⟨w.heap.size, 4, none⟩) hlt2).trans s4
            clear p0 p1 p2 p3 p4 s0 s1 s2 s3 s4
            have hfin : Below w.heap.size w wr := below_then hbF (by omega) hbj
            have HR2 := Lib.hid hr2
            clear hr2
            go_wp2_with fail
            have hne : ∀ g, A2 = some ⟨g, 0, none⟩ → w.heap.size ≠ g := fun g hg => by
              have := (HOJ.out.1.lt g (by rw [hg]; rfl)).1
              omega
            (refine bodyPost_ret (v := .tuple #[.slice A2 n c2, .agg #[.int .i64 0, .int .i64 0, .int .i64 0, .string ⟨#[]⟩, .slice none 0 0], .bool true]) ?_ rfl ?_; (focus (first | (simp [results, Tryz.results208, go_sem, hc1, hz1]; done) | (simp [results, Tryz.results208, go_sem]; done) | (simp [results, Tryz.results208, go_sem, *]; done))); exact ⟨(by repeat (first | (with_reducible exact Below.refl _ _) | (with_reducible assumption) | ((with_reducible refine Below.alloc ?_ ?_ _); rotate_left; focus (first | exact Nat.le_refl _ | omega | (simp; done) | (simp; omega))) | ((with_reducible refine Below.setCell ?_ ?_ _); rotate_left; focus (first | exact Nat.le_refl _ | omega | (simp; done) | (simp; omega))) | (with_reducible refine Below.drew ?_) | (with_reducible refine below_drewN ?_ _) | ((with_reducible refine below_via (by assumption) ?_ ?_); focus (first | exact Nat.le_refl _ | omega | (simp; done) | (simp; omega))))), .inl ⟨A2, c2, ⟨0, 0, 0, ⟨#[]⟩⟩, by rw [← HN.out], ((((HR2.out.setCell (p := ⟨w.heap.size, 0, none⟩) hne _).setCell (p := ⟨w.heap.size, 1, none⟩) hne _).setCell (p := ⟨w.heap.size, 2, none⟩) hne _).setCell (p := ⟨w.heap.size, 3, none⟩) hne _).setCell (p := ⟨w.heap.size, 4, none⟩) hne _⟩⟩)
      · have hu : u = VD := by
          obtain ⟨hm, h6⟩ := HR.out.2 rfl
          obtain ⟨v, h | h⟩ := HYA.out u hm
          · rw [h.1] at h6; rcases h6 with h6 | h6 <;> cases h6
          · exact h
        obtain ⟨uk, un, ud, ut⟩ := u
        simp only [VD, V.mk.injEq] at hu
        obtain ⟨e1, e2, e3, e4⟩ := hu
        go_wp2_with fail
        go_region_with fail
        go_wp2_with fail
        have hfin : Below w.heap.size w w1 := below_then hbW (by omega) hbw
        (refine bodyPost_ret (v := .tuple #[.slice none 0 0, .agg #[.int .i64 uk, .int .i64 un, .int .i64 ud, .string ut, .slice none 0 0], .bool false]) ?_ rfl ?_; (focus (first | (simp [results, Tryz.results208, go_sem, hc1, hz1]; done) | (simp [results, Tryz.results208, go_sem]; done) | (simp [results, Tryz.results208, go_sem, *]; done))); exact ⟨(by repeat (first | (with_reducible exact Below.refl _ _) | (with_reducible assumption) | ((with_reducible refine Below.alloc ?_ ?_ _); rotate_left; focus (first | exact Nat.le_refl _ | omega | (simp; done) | (simp; omega))) | ((with_reducible refine Below.setCell ?_ ?_ _); rotate_left; focus (first | exact Nat.le_refl _ | omega | (simp; done) | (simp; omega))) | (with_reducible refine Below.drew ?_) | (with_reducible refine below_drewN ?_ _) | ((with_reducible refine below_via (by assumption) ?_ ?_); focus (first | exact Nat.le_refl _ | omega | (simp; done) | (simp; omega))))), .inr (by rw [e1, e2, e3, e4])⟩)
end Go.Proofs.YtpahhejkpdkjmaaGreatDoor
