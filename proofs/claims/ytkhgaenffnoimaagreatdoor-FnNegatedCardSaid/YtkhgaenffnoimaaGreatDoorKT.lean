/- COUNTIF of a matrix of numbers and a condition. -/
import Derived.Test.YtkhgaenffnoimaaGreatDoorKN
import Derived.Test.YtkhgaenffnoimaaGreatDoorKR
import Derived.Test.YtkhgaenffnoimaaGreatDoorMB
set_option linter.unusedSimpArgs false
set_option linter.unusedVariables false
namespace Go.Proofs.YtkhgaenffnoimaaGreatDoor
open Go.RowKit FL
attribute [local go_sem] run_store_float as64
theorem take_countP {ks : List Int} {p : Int → Bool} {q : Nat} {k : Int} (h : ks[q]? = some k) : (ks.take (q + 1)).countP p = (ks.take q).countP p + (if p k then 1 else 0) := by
  rw [take_succ_of h, List.countP_append, List.countP_singleton]
theorem take_countP_le (ks : List Int) (p : Int → Bool) (q : Nat) : (ks.take q).countP p ≤ q := by
  have h1 := List.countP_le_length (p := p) (l := ks.take q)
  rw [List.length_take] at h1
  omega
set_option maxRecDepth 100000 in
set_option maxHeartbeats 2000000 in
theorem c52MT (ks : List Int) (p : Int → Bool) (s : ByteArray) (o : Nat) (kc : Int) (A : Option Addr) (n c L1 L2 B L b0 b1 : Nat) (pp : Value) (w : World) (hl : n ≤ 120) (h0 : 0 < n) (hlen : n = ks.length)
    (hkc : kc.natAbs ≤ 9999) (hT : FT w) (hne : s.toList.isEmpty = false)
    (h99 : ∀ W, Calls Tryz.prog 99 #[.string s] W (Ret W (.tuple #[.int .u8 o, .string (plainS kc), .bool true])))
    (h75 : ∀ W g, Below w.heap.size w W → CritC W g o (floatOfInt FloatKind.f64 kc) → ∀ k, k ∈ ks → Calls Tryz.prog 75 #[fN (floatOfInt FloatKind.f64 k), .pointer (some ⟨g, 0, none⟩)] W (Ret W (.tuple #[.bool (p k), .nilIface])))
    (hx : FM w B ks A L1 L2) (hd : DL w L [b0, b1] [.iface 68 (fM A n c L1 L2), .iface 68 (fS s)]) :
    Calls Tryz.prog 52 #[pp, .pointer (some ⟨L, 0, none⟩)] w (Ret w (fN (F16 (16 * (ks.countP p : Int))))) := by
  have HD := Lib.hid hd
  have H74 : Hid (∀ W, Below w.heap.size w W → Calls Tryz.prog 74 #[.agg #[.string ⟨#[]⟩, .float .f64 0, .string s, .slice none 0 0, .slice none 0 0, .bool false, .string ⟨#[]⟩, .int .u8 2, .pointer none, .pointer none]] W (fun e w' => ∃ g, e = .returned (.pointer (some ⟨g, 0, none⟩)) ∧ W.heap.size ≤ g ∧ CritC w' g o (floatOfInt FloatKind.f64 kc) ∧ Below W.heap.size W w')) :=
    Lib.hid fun W hb => c74 s o kc W hkc (hT.below hb hT.1) hne h99
  have H72 : Hid (∀ W, Below w.heap.size w W → Calls Tryz.prog 72 #[.agg #[.string ⟨#[]⟩, .float .f64 0, .string ⟨#[]⟩, .slice none 0 0, .slice A n c, .bool false, .string ⟨#[]⟩, .int .u8 4, .pointer (some ⟨L1, 0, none⟩), .pointer (some ⟨L2, 0, none⟩)]] W (fun e w' => ∃ (A' : Option Addr) (c' : Nat), e = .returned (.slice A' n c') ∧ CRow w' A' 10 (fNs ks) ∧ (∀ g, A' = some ⟨g, 0, none⟩ → W.heap.size ≤ g) ∧ Below W.heap.size W w')) :=
    Lib.hid fun W hb => c72M ks A n c L1 L2 B W hl h0 hlen (hx.below hb)
  have H75 := Lib.hid h75
  have HN := Lib.hid hlen
  have hcl := List.countP_le_length (p := p) (l := ks)
  have H63 : Hid (∀ W, Calls Tryz.prog 63 #[.float .f64 (F16 (16 * (ks.countP p : Int)))] W (Ret W (fN (F16 (16 * (ks.countP p : Int)))))) := Lib.hid fun W => c63' _ W (fok_F16 _ (by omega))
  obtain ⟨hb1, _, _, _, hb5, _⟩ := hd.el 0 b0 rfl
  obtain ⟨kb1, _, _, _, kb5, _⟩ := hd.el 1 b1 rfl
  have e3 : w.cell? ⟨b0, 3, none⟩ = some (.iface 68 (.agg #[.string ⟨#[]⟩, .float .f64 0, .string ⟨#[]⟩, .slice none 0 0, .slice A n c, .bool false, .string ⟨#[]⟩, .int .u8 4, .pointer (some ⟨L1, 0, none⟩), .pointer (some ⟨L2, 0, none⟩)])) := hb5
  have k3 : w.cell? ⟨b1, 3, none⟩ = some (.iface 68 (.agg #[.string ⟨#[]⟩, .float .f64 0, .string s, .slice none 0 0, .slice none 0 0, .bool false, .string ⟨#[]⟩, .int .u8 2, .pointer none, .pointer none])) := kb5
  clear hx hd hb5 kb5 h75 h99 hT hlen hkc hne hcl
  obtain ⟨fs, hfs⟩ : ∃ fs, fs = F16 (16 * (ks.countP p : Int)) := ⟨_, rfl⟩
  rw [← hfs] at H63 ⊢
  have HFS := Lib.hid hfs
  clear hfs
  go_enter Tryz.func52, Tryz.ntmps52
  go_wp2_with fail
  have hbA : Below w.heap.size w (w.alloc (.cells #[.string ⟨#[]⟩, .float .f64 0, .string ⟨#[]⟩, .slice none 0 0, .slice none 0 0, .bool false, .string ⟨#[]⟩, .int .u8 0, .pointer none, .pointer none] 68)) := (by repeat (first | (with_reducible exact Below.refl _ _) | (with_reducible assumption) | ((with_reducible refine Below.alloc ?_ ?_ _); rotate_left; focus (first | exact Nat.le_refl _ | omega | (simp; done) | (simp; omega))) | ((with_reducible refine Below.setCell ?_ ?_ _); rotate_left; focus (first | exact Nat.le_refl _ | omega | (simp; done) | (simp; omega))) | (with_reducible refine Below.drew ?_) | (with_reducible refine below_drewN ?_ _) | ((with_reducible refine below_via (by assumption) ?_ ?_); focus (first | exact Nat.le_refl _ | omega | (simp; done) | (simp; omega)))))
  have HZ := Lib.hid (z64_new w 68)
  generalize (w.alloc (.cells #[.string ⟨#[]⟩, .float .f64 0, .string ⟨#[]⟩, .slice none 0 0, .slice none 0 0, .bool false, .string ⟨#[]⟩, .int .u8 0, .pointer none, .pointer none] 68)) = W1 at hbA HZ ⊢
  have HD1 := HD.out.below hbA
  refine (c70 L [b0, b1] _ W1 HD1).mono ?_
  rintro e w1 ⟨rfl, rfl⟩
  go_wp2_with fail
  refine (c59 L [b0, b1] _ w1 HD1 (by simp)).mono ?_
  rintro e w1' ⟨rfl, rfl⟩
  go_wp2_with fail
  refine (c60 L [b0, b1] _ 0 b0 w1' HD1 rfl).mono ?_
  rintro e w2' ⟨rfl, rfl⟩
  rw [elP_some (i := 0 + 1) (b := b1) rfl]
  have k3' := (hbA.cell (p := ⟨b1, 3, none⟩) kb1).trans k3
  have kb1' : b1 < w2'.heap.size := Nat.lt_of_lt_of_le kb1 hbA.size
  go_wp2_with fail
  refine (H74.out w2' hbA).mono ?_
  rintro e w3 ⟨g, rfl, hgg, hcr, hb3⟩
  have HCR := Lib.hid hcr
  have hb3w : Below w.heap.size w w3 := keepS hb3 hbA
  have HD3 := HD.out.below hb3w
  have hb0' : b0 < w3.heap.size := Nat.lt_of_lt_of_le hb1 hb3w.size
  have e3' := (hb3w.cell (p := ⟨b0, 3, none⟩) hb1).trans e3
  clear k3 k3' e3 hcr hgg
  go_wp2_with fail
  refine (c59 L [b0, b1] _ w3 HD3 (by simp)).mono ?_
  rintro e w3' ⟨rfl, rfl⟩
  go_wp2_with fail
  refine (H72.out w3' hb3w).mono ?_
  rintro e w4 ⟨A', c', rfl, hcrow, hge, hb4⟩
  have HCW := Lib.hid hcrow
  have hb4w : Below w.heap.size w w4 := keepS hb4 hb3w
  have HCR4 := Lib.hid (HCR.out.below hb4 HCR.out.lt)
  have HZ4 := Lib.hid ((HZ.out.below hb3).below hb4)
  have hgl : g < w4.heap.size := HCR4.out.lt
  have hw4 := hb4w.size
  clear hcrow hge HD1 HD3
  rcases HCW.out with h | ⟨gA, rfl, hgA, hcA⟩
  · have := fNs_len ks
    have := HN.out
    rw [h] at *
    simp at *
    omega
  have HCA := Lib.hid hcA
  clear hcA
  have hcr0 := HCR4.out.at0
  have hcr8 := HCR4.out.at1 7 _ rfl
  go_wp2_with fail
  go_loopw [6, 31] (fun cc i wr => ∃ q : Nat, q ≤ n ∧ cc = .float .f64 (F16 (16 * ((ks.take q).countP p : Int))) ∧ i = .int .i64 q ∧ Below w4.heap.size w4 wr) (fun _ i _ => n - (intOf i).toNat)
  case atStart => exact ⟨0, Nat.zero_le _, by simp [F16_zero], rfl, Below.refl _ _⟩
  case round =>
    obtain ⟨q, hq, rfl, rfl, hb⟩ := hrel
    have hwr := hb.size
    by_cases hlt : q < n
    · obtain ⟨k, hkq⟩ : ∃ k, ks[q]? = some k := ⟨_, List.getElem?_eq_getElem (by rw [← HN.out]; exact hlt)⟩
      have hcell : ∀ (i : Nat) (u : Value), (fNc (floatOfInt FloatKind.f64 k))[i]? = some u → wr.cell? ⟨gA, q * 10 + i, none⟩ = some u := fun i u hu => (hb.cell (p := ⟨gA, _, none⟩) hgA).trans (HCA.out q _ (by unfold fNs; rw [List.getElem?_map, hkq]; rfl) i u hu)
      have e0 := hcell 0 _ rfl
      have e1 := hcell 1 _ rfl
      have e2 := hcell 2 _ rfl
      have e3 := hcell 3 _ rfl
      have e4 := hcell 4 _ rfl
      have e5 := hcell 5 _ rfl
      have e6 := hcell 6 _ rfl
      have e7 := hcell 7 _ rfl
      have e8 := hcell 8 _ rfl
      have e9 := hcell 9 _ rfl
      simp only [Nat.add_zero] at e0
      clear hcell
      have hgr : gA < wr.heap.size := by omega
      have HS : Hid ((ks.take (q + 1)).countP p = (ks.take q).countP p + (if p k then 1 else 0)) := Lib.hid (take_countP hkq)
      have hle := take_countP_le ks p q
      generalize (ks.take q).countP p = cn at HS hle ⊢
      have hs2 : ∀ W, (binOp BinOp.add 24 (.float FloatKind.f64 (F16 (16 * (cn : Int)))) (.float FloatKind.f64 4607182418800017408)).run Tryz.prog W = .ok (.float FloatKind.f64 (F16 (16 * (cn : Int) + 16))) W := fun W => run_add_F16 _ _ _ _ rfl one_F16 (by omega) (by omega) W
      have hmem := List.mem_of_getElem? hkq
      have hbr : Below w.heap.size w wr := hb4w.trans (hb.mono hw4)
      have H75k : Hid (∀ W, Below wr.heap.size wr W → Calls Tryz.prog 75 #[.agg #[.string ⟨#[]⟩, .float .f64 (floatOfInt FloatKind.f64 k), .string ⟨#[]⟩, .slice none 0 0, .slice none 0 0, .bool false, .string ⟨#[]⟩, .int .u8 1, .pointer none, .pointer none], .pointer (some ⟨g, 0, none⟩)] W (Ret W (.tuple #[.bool (p k), .nilIface]))) :=
        Lib.hid fun W hW => H75.out W g (keepS hW hbr) ((HCR4.out.below hb hgl).below hW (by omega)) k hmem
      clear hkq hmem
      generalize floatOfInt FloatKind.f64 k = fk at e1 H75k
      go_wp2_with fail
      refine (H75k.out _ (by repeat (first | (with_reducible exact Below.refl _ _) | (with_reducible assumption) | ((with_reducible refine Below.alloc ?_ ?_ _); rotate_left; focus (first | exact Nat.le_refl _ | omega | (simp; done) | (simp; omega))) | ((with_reducible refine Below.setCell ?_ ?_ _); rotate_left; focus (first | exact Nat.le_refl _ | omega | (simp; done) | (simp; omega))) | (with_reducible refine Below.drew ?_) | (with_reducible refine below_drewN ?_ _) | ((with_reducible refine below_via (by assumption) ?_ ?_); focus (first | exact Nat.le_refl _ | omega | (simp; done) | (simp; omega)))))).mono ?_
      rintro e w6 ⟨rfl, hb6⟩
      have hb6w : Below w4.heap.size w4 w6 := Below.trans hb ((show Below wr.heap.size wr w6 from keepS hb6 (by repeat (first | (with_reducible exact Below.refl _ _) | (with_reducible assumption) | ((with_reducible refine Below.alloc ?_ ?_ _); rotate_left; focus (first | exact Nat.le_refl _ | omega | (simp; done) | (simp; omega))) | ((with_reducible refine Below.setCell ?_ ?_ _); rotate_left; focus (first | exact Nat.le_refl _ | omega | (simp; done) | (simp; omega))) | (with_reducible refine Below.drew ?_) | (with_reducible refine below_drewN ?_ _) | ((with_reducible refine below_via (by assumption) ?_ ?_); focus (first | exact Nat.le_refl _ | omega | (simp; done) | (simp; omega)))))).mono hwr)
      cases hpk : p k with
      | true =>
        go_wp2_with fail
        refine ⟨⟨q + 1, by omega, ?_, by simp, hb6w⟩, by simp only [intOf]; omega⟩
        rw [HS.out, hpk]
        have hcast : (16 * (cn : Int) + 16) = 16 * ((cn + (if true = true then 1 else 0) : Nat) : Int) := by
          simp
          omega
        rw [hcast]
      | false =>
        go_wp2_with fail
        refine ⟨⟨q + 1, by omega, ?_, by simp, hb6w⟩, by simp only [intOf]; omega⟩
        rw [HS.out, hpk]
        simp
    · have hqn : q = n := by omega
      subst hqn
      have htk : List.take q ks = ks := by rw [HN.out, List.take_length]
      rw [htk, ← HFS.out]
      go_wp2_with fail
      refine (H63.out wr).mono ?_
      rintro e w6 ⟨rfl, hb6⟩
      have hb6w : Below w.heap.size w w6 := keepS hb6 (hb4w.trans (hb.mono hw4))
      obtain ⟨zl, z0, z1, z2, z3, z4, z5, z6, z7, z8, z9, zf⟩ := (HZ4.out.below hb).below hb6
      unfold fN
      go_wp2_with fail
      (refine bodyPost_ret (v := .agg #[.string ⟨#[]⟩, .float .f64 fs, .string ⟨#[]⟩, .slice none 0 0, .slice none 0 0, .bool false, .string ⟨#[]⟩, .int .u8 1, .pointer none, .pointer none]) ?_ rfl ?_; (focus (first | (simp [results, Tryz.results52, go_sem, hc1, hz1]; done) | (simp [results, Tryz.results52, go_sem]; done) | (simp [results, Tryz.results52, go_sem, *]; done))); exact ret_mk (by repeat (first | (with_reducible exact Below.refl _ _) | (with_reducible assumption) | ((with_reducible refine Below.alloc ?_ ?_ _); rotate_left; focus (first | exact Nat.le_refl _ | omega | (simp; done) | (simp; omega))) | ((with_reducible refine Below.setCell ?_ ?_ _); rotate_left; focus (first | exact Nat.le_refl _ | omega | (simp; done) | (simp; omega))) | (with_reducible refine Below.drew ?_) | (with_reducible refine below_drewN ?_ _) | ((with_reducible refine below_via (by assumption) ?_ ?_); focus (first | exact Nat.le_refl _ | omega | (simp; done) | (simp; omega))))))
end Go.Proofs.YtkhgaenffnoimaaGreatDoor
