/- innerList of one matrix; ToList; countSum. -/
import Derived.Test.YtkhgaenffnoimaaGreatDoorM7
set_option linter.unusedSimpArgs false
set_option linter.unusedVariables false
namespace Go.Proofs.YtkhgaenffnoimaaGreatDoor
open Go.RowKit
attribute [local go_sem] run_store_float as64
/-- A matrix as a formula argument. -/
def fM (A : Option Addr) (n c L1 L2 : Nat) : Value := .agg #[.string ⟨#[]⟩, .float .f64 0, .string ⟨#[]⟩, .slice none 0 0, .slice A n c, .bool false, .string ⟨#[]⟩, .int .u8 4, .pointer (some ⟨L1, 0, none⟩), .pointer (some ⟨L2, 0, none⟩)]
def fNs (ks : List Int) : List (List Value) := ks.map fun k => fNc (floatOfInt FloatKind.f64 k)
/-- What a matrix's argument leads to. -/
structure FM (w : World) (B : Nat) (ks : List Int) (A : Option Addr) (L1 L2 : Nat) : Prop where
  col : ColB B w A 10 (fNs ks)
  l1 : DL w L1 [] []
  l2 : ∃ bx vx, B ≤ bx ∧ DL w L2 [bx] [vx]
  b1 : B ≤ L1
  b2 : B ≤ L2
theorem FM.below {w w1 : World} {B : Nat} {ks : List Int} {A : Option Addr} {L1 L2 : Nat} (h : FM w B ks A L1 L2) (hb : Below w.heap.size w w1) : FM w1 B ks A L1 L2 := by
  obtain ⟨bx, vx, h1, h2⟩ := h.l2
  exact ⟨h.col.below hb, h.l1.below hb, ⟨bx, vx, h1, h2.below hb⟩, h.b1, h.b2⟩
theorem c66Mf (ks : List Int) (A : Option Addr) (n c : Nat) (w : World) (hl : n ≤ 120) (h0 : 0 < n) (hlen : n = ks.length) (hkk : ∀ k, k ∈ ks → -9999 ≤ k ∧ k ≤ 9999) (hx : Col w A 4 (ks.map fun k => (iN k).cells)) :
    Calls Tryz.prog 66 #[.agg #[.int .i64 5, .float .f64 0, .string ⟨#[]⟩, .slice A n c]] w (fun e w' => ∃ (A' : Option Addr) (c' L1 L2 : Nat), e = .returned (fM A' n c' L1 L2) ∧ FM w' w.heap.size ks A' L1 L2 ∧ Below w.heap.size w w') :=
  (c66M ks A n c w hl h0 hlen hkk hx).mono fun e w' ⟨A', c', L1, L2, he, h1, h2, h3, h4, h5, h6⟩ => ⟨A', c', L1, L2, he, ⟨h1, h2, h3, h4, h5⟩, h6⟩
/-- append of one element that lies anywhere. -/
theorem appSrcB {ops : Array Oper} {rest : List Oper} {o : Oper} {a : Act} {Q : Exit → Act → World → Prop} {W : World} (B : Nat) (hB : B ≤ W.heap.size) (hgd : o.guard = none) (s x : Operand) (t e : TypeId) (z : Value) (sz bytes : Nat)
    (ho : o.op = .call { callee := .builtin .append, args := #[s, x], argTypes := #[t, t] })
    (ht : Tryz.prog.underlying t = some (.slice e)) (hinfo : (Tryz.prog.info? e).map (fun i => (i.zero, i.size, i.bytes)) = some (some z, sz, bytes)) (hz : z.cells.size = sz) (hs0 : 0 < sz) (hb0 : 0 < bytes)
    (v : Value) (xs : List (List Value)) (ys : List Value) (g c : Nat) (hs : a.eval s = v) (hx : a.eval x = .slice (some ⟨g, 0, none⟩) 1 c) (hys : ys.length = sz) (h1 : ∀ u ∈ ys, u.oneCell' = true)
    (hc : ∀ (i : Nat) (u : Value), ys[i]? = some u → W.cell? ⟨g, i, none⟩ = some u)
    (HO : OwnB B W e sz v xs) (hl : (xs.length + 1) * bytes ≤ 140737488355328)
    (h : ∀ v1 w1, OwnB B w1 e sz v1 (xs ++ [ys]) → Below B W w1 → W.heap.size ≤ w1.heap.size → wpList Tryz.prog ops Q rest (a.put o.dst v1) w1) :
    wpList Tryz.prog ops Q (o :: rest) a W := by
  obtain ⟨i0, hi, hzz⟩ := Option.map_eq_some_iff.1 hinfo
  simp only [Prod.mk.injEq] at hzz
  obtain ⟨hz0, hz1, hz2⟩ := hzz
  have hlen : xs.length + 1 ≤ 140737488355328 := Nat.le_trans (Nat.le_mul_of_pos_right _ hb0) hl
  refine wpList_append_own_at W hgd s x t ho B e i0 z sz bytes ht hi hz0 hz1 hz2 hz hs0 v xs.length xs.flatten hs HO.1 ⟨g, 0, none⟩ 1 c ys hx (by rw [hys]; simp)
    (fun j u hu => by rw [addr0]; exact hc j u hu) h1 (by simp only [maxLen]; omega) hl hB ?_
  intro v1 w1 hown hg _ _
  refine h v1 w1 ⟨by simpa using hown, fun c hc => ?_⟩ ((Below.refl B W).grown hg hB fun k hk => (HO.1.lt k hk).1) hg.size
  rcases List.mem_append.1 hc with hc | hc
  · exact HO.2 c hc
  · simp at hc
    rw [hc, hys]
theorem fNc_one (b : Nat) : ∀ u ∈ fNc b, u.oneCell' = true := by
  intro u hu
  simp only [fNc, List.mem_cons, List.not_mem_nil, or_false] at hu
  rcases hu with rfl | rfl | rfl | rfl | rfl | rfl | rfl | rfl | rfl | rfl <;> rfl
theorem fNs_len (ks : List Int) : (fNs ks).length = ks.length := by unfold fNs; rw [List.length_map]
theorem fNs_take (ks : List Int) (q : Nat) (k : Int) (h : ks[q]? = some k) : fNs (ks.take (q + 1)) = fNs (ks.take q) ++ [fNc (floatOfInt FloatKind.f64 k)] := by
  unfold fNs
  rw [take_succ_of h, List.map_append]
  rfl
set_option maxRecDepth 100000 in
set_option maxHeartbeats 1000000 in
theorem c72M (ks : List Int) (A : Option Addr) (n c L1 L2 B : Nat) (w : World) (hl : n ≤ 120) (h0 : 0 < n) (hlen : n = ks.length) (hx : FM w B ks A L1 L2) :
    Calls Tryz.prog 72 #[.agg #[.string ⟨#[]⟩, .float .f64 0, .string ⟨#[]⟩, .slice none 0 0, .slice A n c, .bool false, .string ⟨#[]⟩, .int .u8 4, .pointer (some ⟨L1, 0, none⟩), .pointer (some ⟨L2, 0, none⟩)]] w (fun e w' => ∃ (A' : Option Addr) (c' : Nat), e = .returned (.slice A' n c') ∧ CRow w' A' 10 (fNs ks) ∧ (∀ g, A' = some ⟨g, 0, none⟩ → w.heap.size ≤ g) ∧ Below w.heap.size w w') := by
  obtain ⟨rs, hrl, hro, hre⟩ := hx.col.col
  rw [fNs_len] at hrl
  rcases hro with h | ⟨g', rfl, hg, hc⟩
  · rw [List.map_eq_nil_iff.1 h] at hrl
    simp at hrl
    omega
  have HC : Hid (∀ (j : Nat) (r : Option Addr × Nat), rs[j]? = some r → w.cell? ⟨g', j, none⟩ = some (.slice r.1 1 r.2)) := Lib.hid fun j r hj => by
    have := hc j _ (by rw [List.getElem?_map, hj]; rfl) 0 _ rfl
    simpa using this
  have HE := Lib.hid hre
  have HR : Hid (rs.length = n) := Lib.hid (by omega)
  have HN := Lib.hid hlen
  clear hc hre hrl hlen hx
  go_enter Tryz.func72, Tryz.ntmps72
  go_wp2_with fail
  have hbA : Below w.heap.size w (w.alloc (.cells #[.string ⟨#[]⟩, .float .f64 0, .string ⟨#[]⟩, .slice none 0 0, .slice (some ⟨g', 0, none⟩) n c, .bool false, .string ⟨#[]⟩, .int .u8 4, .pointer (some ⟨L1, 0, none⟩), .pointer (some ⟨L2, 0, none⟩)] 68)) := (by repeat (first | (with_reducible exact Below.refl _ _) | (with_reducible assumption) | ((with_reducible refine Below.alloc ?_ ?_ _); rotate_left; focus (first | exact Nat.le_refl _ | omega | (simp; done) | (simp; omega))) | ((with_reducible refine Below.setCell ?_ ?_ _); rotate_left; focus (first | exact Nat.le_refl _ | omega | (simp; done) | (simp; omega))) | (with_reducible refine Below.drew ?_) | (with_reducible refine below_drewN ?_ _) | ((with_reducible refine below_via (by assumption) ?_ ?_); focus (first | exact Nat.le_refl _ | omega | (simp; done) | (simp; omega)))))
  have hsA : (w.alloc (.cells #[.string ⟨#[]⟩, .float .f64 0, .string ⟨#[]⟩, .slice none 0 0, .slice (some ⟨g', 0, none⟩) n c, .bool false, .string ⟨#[]⟩, .int .u8 4, .pointer (some ⟨L1, 0, none⟩), .pointer (some ⟨L2, 0, none⟩)] 68)).heap.size = w.heap.size + 1 := by simp
  generalize (w.alloc (.cells #[.string ⟨#[]⟩, .float .f64 0, .string ⟨#[]⟩, .slice none 0 0, .slice (some ⟨g', 0, none⟩) n c, .bool false, .string ⟨#[]⟩, .int .u8 4, .pointer (some ⟨L1, 0, none⟩), .pointer (some ⟨L2, 0, none⟩)] 68)) = W1 at hbA hsA ⊢
  go_loopw [3, 13] (fun v i wr => ∃ q : Nat, q ≤ n ∧ i = .int .i64 q ∧ Below W1.heap.size W1 wr ∧ OwnB W1.heap.size wr 68 10 v (fNs (ks.take q))) (fun _ i _ => n - (intOf i).toNat)
  case atStart => exact ⟨0, Nat.zero_le _, rfl, Below.refl _ _, ownB_nil _ _ _ _⟩
  case round =>
    obtain ⟨q, hq, rfl, hb, ho⟩ := hrel
    have HO := Lib.hid ho
    clear ho
    have hwr := hb.size
    have hbw : Below w.heap.size w wr := hbA.trans (hb.mono (by omega))
    by_cases hlt : q < n
    · obtain ⟨k, hkq⟩ : ∃ k, ks[q]? = some k := ⟨_, List.getElem?_eq_getElem (by rw [← HN.out]; exact hlt)⟩
      obtain ⟨r, hrq⟩ : ∃ r, rs[q]? = some r := ⟨_, List.getElem?_eq_getElem (by rw [HR.out]; exact hlt)⟩
      have e0 := (hbw.cell (p := ⟨g', q, none⟩) hg).trans (HC.out q r hrq)
      have he1 := (HE.out q r (fNc (floatOfInt FloatKind.f64 k)) hrq (by unfold fNs; rw [List.getElem?_map, hkq]; rfl)).below hbw
      rcases he1 with h | ⟨g2, hrg, hg2, hc2⟩
      · cases h
      obtain ⟨ra, rc⟩ := r
      dsimp only at hrg
      subst hrg
      have HC2 : Hid (∀ (i : Nat) (u : Value), (fNc (floatOfInt FloatKind.f64 k))[i]? = some u → wr.cell? ⟨g2, i, none⟩ = some u) := Lib.hid fun i u hu => by
        have := hc2 0 _ rfl i u hu
        simpa using this
      clear hc2
      have hgr : g' < wr.heap.size := by omega
      have HKQ := Lib.hid hkq
      clear hkq hrq
      go_wp2_with (at_builtin; refine appSrcB W1.heap.size hwr rfl _ _ 63 68 _ 10 136 rfl under63 info68 rfl (by decide) (by decide) _ (fNs (ks.take q)) (fNc (floatOfInt FloatKind.f64 k)) g2 rc rfl rfl rfl (fNc_one _) HC2.out HO.out (by rw [fNs_len, List.length_take]; omega) ?_; intro v1 w2 ho2 hb2 hz2)
      refine ⟨⟨q + 1, by omega, by simp, hb.trans hb2, ?_⟩, by simp only [intOf]; omega⟩
      rw [fNs_take ks q k HKQ.out]
      exact ho2
    · have hqn : q = n := by omega
      subst hqn
      have htk : List.take q ks = ks := by rw [HN.out, List.take_length]
      have HG : Hid (∀ (A : Option Addr) (m c g : Nat), u3 = .slice A m c → A = some ⟨g, 0, none⟩ → w.heap.size ≤ g) := Lib.hid fun A m c g h hA => by
        have := (HO.out.1.lt g (by rw [h, hA]; rfl)).1
        omega
      obtain ⟨A', c', rfl, hr⟩ := HO.out.row
      rw [htk] at hr
      have hln : (fNs (List.take q ks)).length = q := by rw [fNs_len, List.length_take]; have := HN.out; omega
      rw [hln]
      have HR2 := Lib.hid hr
      clear hr
      go_wp2_with fail
      go_ret
      exact ⟨A', c', rfl, HR2.out, fun g h => HG.out _ _ _ g rfl h, hbw⟩
end Go.Proofs.YtkhgaenffnoimaaGreatDoor
