/- CONCATENATE of the implementation. -/
import Derived.Test.YtpahhejkpdkjmaaGreatDoorJJ
import Derived.Lib.BufferOld
set_option linter.unusedSimpArgs false
set_option linter.unusedVariables false
namespace Go.Proofs.YtpahhejkpdkjmaaGreatDoor
open Go.RowKit
attribute [local go_sem] run_store_float as64
def posL : List Nat → Nat → Nat
  | [], _ => 0
  | b :: bs, x => if b = x then bs.length + 1 else posL bs x
theorem posL_at : ∀ (bs : List Nat) (k x : Nat), bs[k]? = some x → (∀ j, j < k → bs[j]? ≠ some x) → posL bs x = bs.length - k
  | [], k, x, h, _ => by simp at h
  | b :: bs, 0, x, h, _ => by
    have : b = x := by simpa using h
    simp [posL, this]
  | b :: bs, k + 1, x, h, hn => by
    have hb : b ≠ x := fun e => hn 0 (Nat.succ_pos k) (by simp [e])
    have := posL_at bs k x (by simpa using h) (fun j hj => by have := hn (j + 1) (by omega); simpa using this)
    simp only [posL, if_neg hb, this, List.length_cons]
    omega
/-- How many elements of the list lie from here on. -/
def posP (bs : List Nat) (v : Value) : Nat := match v with | .pointer (some a) => posL bs a.block | _ => 0
theorem posP_el {w : World} {L : Nat} {bs : List Nat} {vs : List Value} (h : DL w L bs vs) (k : Nat) : posP bs (elP bs k) = bs.length - k := by
  by_cases hk : k < bs.length
  · obtain ⟨b, hb⟩ : ∃ b, bs[k]? = some b := ⟨_, List.getElem?_eq_getElem hk⟩
    rw [elP_some hb]
    exact posL_at bs k b hb (fun j hj e => by have := h.inj j k b e hb; omega)
  · rw [elP_none (by omega)]
    show 0 = _
    omega
theorem below_drewN' (w : World) (n : Nat) : Below w.heap.size w (w.drewN n) := ⟨rfl, rfl, rfl, Nat.le_refl _, fun _ _ => rfl⟩
theorem bytes_back (s : ByteArray) : (⟨s.data.toList.toArray⟩ : ByteArray) = s := by cases s; simp
theorem bytes_app (s t : ByteArray) : (s ++ t).data.toList = s.data.toList ++ t.data.toList := by rw [ByteArray.data_append, Array.toList_append]
theorem Z64.belowB {w w1 : World} {b B : Nat} (h : Z64 w b) (hlt : b < B) (hb : Below B w w1) : Z64 w1 b :=
  ⟨Nat.lt_of_lt_of_le h.lt hb.size, (hb.cell (p := ⟨b, _, none⟩) hlt).trans h.c0, (hb.cell (p := ⟨b, _, none⟩) hlt).trans h.c1, (hb.cell (p := ⟨b, _, none⟩) hlt).trans h.c2, (hb.cell (p := ⟨b, _, none⟩) hlt).trans h.c3, (hb.cell (p := ⟨b, _, none⟩) hlt).trans h.c4,
    (hb.cell (p := ⟨b, _, none⟩) hlt).trans h.c5, (hb.cell (p := ⟨b, _, none⟩) hlt).trans h.c6, (hb.cell (p := ⟨b, _, none⟩) hlt).trans h.c7, (hb.cell (p := ⟨b, _, none⟩) hlt).trans h.c8, (hb.cell (p := ⟨b, _, none⟩) hlt).trans h.c9, fun o => (hb.frozen (p := ⟨b, o, none⟩) hlt).trans (h.fr o)⟩
theorem neq_nil (W : World) : (binOp BinOp.neq 80 (.pointer none) (.pointer none)).run Tryz.prog W = .ok (.bool false) W := by
  first | exact run_neq_pointer_nil W 80 none (by kernel_rfl) | kernel_rfl
set_option maxRecDepth 100000 in
set_option maxHeartbeats 1000000 in
theorem c61 (p : Option Addr) (L : Nat) (bs : List Nat) (ss : List ByteArray) (w : World) (h : DL w L bs (ss.map fun s => .iface 64 (fS s))) (h0 : 0 < bs.length) (hl : bs.length ≤ 20) (hs : ∀ s, s ∈ ss → s.size ≤ 1000) :
    Calls Tryz.prog 61 #[.pointer p, .pointer (some ⟨L, 0, none⟩)] w (Ret w (fS (cat ss))) := by
  have hlen : ss.length = bs.length := by have := h.leneq; rw [List.length_map] at this; exact this
  have HLEN := Lib.hid hlen
  have HD := Lib.hid h
  have HSZ := Lib.hid (cat_size ss hs)
  have HS := Lib.hid hs
  clear h hs hlen
  have HZ := Lib.hid (z64_new w)
  have hbA : Below w.heap.size w (w.alloc (.cells #[.string ⟨#[]⟩, .float .f64 0, .string ⟨#[]⟩, .slice none 0 0, .slice none 0 0, .bool false, .string ⟨#[]⟩, .int .u8 0, .pointer none, .pointer none] 64)) := (by repeat (first | (with_reducible exact Below.refl _ _) | (with_reducible assumption) | ((with_reducible refine Below.alloc ?_ ?_ _); rotate_left; focus (first | exact Nat.le_refl _ | omega | (simp; done) | (simp; omega))) | ((with_reducible refine Below.setCell ?_ ?_ _); rotate_left; focus (first | exact Nat.le_refl _ | omega | (simp; done) | (simp; omega))) | (with_reducible refine Below.drew ?_) | (with_reducible refine below_drewN ?_ _) | ((with_reducible refine below_via (by assumption) ?_ ?_); focus (first | exact Nat.le_refl _ | omega | (simp; done) | (simp; omega)))))
  generalize hx : cat ss = x
  have HX := Lib.hid hx
  clear hx
  unfold fS
  go_enter Tryz.func61, Tryz.ntmps61
  go_wp2_with fail
  have HI := Lib.fresh_isBuffer 121 5 (w.alloc (.cells #[.string ⟨#[]⟩, .float .f64 0, .string ⟨#[]⟩, .slice none 0 0, .slice none 0 0, .bool false, .string ⟨#[]⟩, .int .u8 0, .pointer none, .pointer none] 64))
  have hsA : (w.alloc (.cells #[.string ⟨#[]⟩, .float .f64 0, .string ⟨#[]⟩, .slice none 0 0, .slice none 0 0, .bool false, .string ⟨#[]⟩, .int .u8 0, .pointer none, .pointer none] 64)).heap.size = w.heap.size + 1 := by simp
  rw [hsA] at HI
  have HZ1 := Lib.hid (HZ.out.below (Below.alloc (Below.refl _ _) (Nat.le_refl _) (.cells #[.slice none 0 0, .int .i64 0, .int .i8 0] 121)))
  have hbW := hbA.alloc (by simp) (.cells #[.slice none 0 0, .int .i64 0, .int .i8 0] 121)
  have hsW : (((w.alloc (.cells #[.string ⟨#[]⟩, .float .f64 0, .string ⟨#[]⟩, .slice none 0 0, .slice none 0 0, .bool false, .string ⟨#[]⟩, .int .u8 0, .pointer none, .pointer none] 64)).alloc (.cells #[.slice none 0 0, .int .i64 0, .int .i8 0] 121))).heap.size = w.heap.size + 2 := by simp
  have HI0 := Lib.hid HI
  clear HI hsA hbA HZ
  generalize ((w.alloc (.cells #[.string ⟨#[]⟩, .float .f64 0, .string ⟨#[]⟩, .slice none 0 0, .slice none 0 0, .bool false, .string ⟨#[]⟩, .int .u8 0, .pointer none, .pointer none] 64)).alloc (.cells #[.slice none 0 0, .int .i64 0, .int .i8 0] 121)) = W1 at HI0 HZ1 hbW hsW ⊢
  have e0 : Value.pointer (some ⟨(bs[0]?).getD L, 0, none⟩) = elP bs 0 := by
    obtain ⟨b0, hb0⟩ : ∃ b0, bs[0]? = some b0 := ⟨_, List.getElem?_eq_getElem h0⟩
    rw [elP_some hb0, hb0]
    rfl
  refine (c51 L bs _ _ (HD.out.below hbW) h0).mono ?_
  rintro e w1 ⟨he, rfl⟩
  rw [e0] at he
  subst he
  clear e0
  go_wp2_with fail
  go_loopw [6] (fun v wr => ∃ k : Nat, k ≤ bs.length ∧ v = elP bs k ∧ Below (w.heap.size + 1) w1 wr ∧ Lib.IsBuffer 121 5 (w.heap.size + 1) (w.heap.size + 1) (Lib.byteCells (cat (ss.take k)).data.toList) wr) (fun v _ => posP bs v)
  case atStart => exact ⟨0, Nat.zero_le _, rfl, Below.refl _ _, HI0.out⟩
  case round =>
    obtain ⟨k, hk, rfl, hb, hI⟩ := hrel
    have hbw : Below w.heap.size w wr := hbW.trans (hb.mono (by omega))
    have HI := Lib.hid hI
    clear hI
    have hswr := hb.size
    by_cases hlt : k < bs.length
    · obtain ⟨b, hbk⟩ : ∃ b, bs[k]? = some b := ⟨_, List.getElem?_eq_getElem hlt⟩
      obtain ⟨s, hsk⟩ : ∃ s, ss[k]? = some s := ⟨_, List.getElem?_eq_getElem (by rw [HLEN.out]; exact hlt)⟩
      have hm : posP bs (.pointer (some ⟨b, 0, none⟩)) = bs.length - k := by rw [← elP_some hbk]; exact posP_el HD.out k
      have hm2 : posP bs (elP bs (k + 1)) = bs.length - (k + 1) := posP_el HD.out (k + 1)
      rw [elP_some hbk]
      have e3 := ((HD.out.below hbw).el k b hbk).2.2.2.2.1
      have he3 : wr.cell? ⟨b, 3, none⟩ = some (.iface 64 (fS s)) := by rw [e3, List.getElem?_map, hsk]; rfl
      have lw := ((HD.out.below hbw).el k b hbk).1
      have HBK := Lib.hid hbk
      have HSK := Lib.hid hsk
      clear e3 hbk hsk
      go_wp2_with fail
      refine (c131 s _).mono ?_
      rintro e w2 ⟨g, rfl, hg, hb2⟩
      obtain ⟨lg, g0, g1, g2, g3, g4, g5, g6, g7, g8, g9⟩ := hg
      go_wp2_with fail
      refine wp_loop_rounds 2 ?_
      rw [rounds_succ]
      go_wp2_with fail
      refine (c52_S s _).mono ?_
      rintro e w3 ⟨rfl, hb3⟩
      have hb13 : Below wr.heap.size wr w3 := keepS (keepS' (Below.alloc (Below.refl _ _) (Nat.le_refl _) _) (by simp) hb3) hb2
      have hs13 := hb13.size
      clear g0 g1 g2 g3 g4 g5 g6 g7 g8 g9 hb2 hb3 lg he3
      go_wp2_with fail
      refine (Tryz.Buffer_WriteString_k (w.heap.size + 1) (w.heap.size + 1) _ s w3 (HI.out.old hb13) (by omega) (Lib.byteCells_one _) ?_).mono ?_
      · have h1 := HSZ.out k (by rw [HLEN.out]; exact hk)
        have h2 := HS.out s (List.mem_of_getElem? HSK.out)
        rw [Lib.byteCells_length, ← Lib.size_eq]
        omega
      rintro e w4 ⟨rfl, hI4, hb4, _⟩
      have HI4 := Lib.hid hI4
      clear hI4
      have hb14 : Below (w.heap.size + 1) w1 w4 := (hb.trans (hb13.mono (by omega))).trans hb4
      have hbw4 : Below w.heap.size w w4 := hbW.trans (hb14.mono (by omega))
      go_wp2_with fail
      rw [rounds_succ]
      go_wp2_with fail
      refine (c140 L bs _ k b w4 (HD.out.below hbw4) HBK.out).mono ?_
      rintro e w5 ⟨rfl, rfl⟩
      go_wp2_with fail
      go_roundw
      case rel => exact ⟨k + 1, by omega, rfl, hb14, by rw [cat_take HSK.out, bytes_app, Lib.byteCells_append]; exact HI4.out⟩
      case measure =>
        first
          | (rw [hm, hm2]; omega)
          | (show posP bs (elP bs (k + 1)) < posP bs (.pointer (some ⟨b, 0, none⟩)); rw [hm, hm2]; omega)
    · rw [elP_none (i := k) (by omega)]
      have hk' : k = ss.length := by rw [HLEN.out]; omega
      have hcat : cat (ss.take k) = x := by rw [hk', List.take_length]; exact HX.out
      have hI := HI.out
      rw [hcat] at hI
      have HZ3 := Lib.hid (HZ1.out.belowB (by omega) hb)
      have hqn : ∀ W, (binOp BinOp.neq 80 (.pointer none) (.pointer none)).run Tryz.prog W = .ok (.bool false) W := neq_nil
      clear hcat hk'
      go_wp2_with fail
      refine (Tryz.Buffer_String (w.heap.size + 1) (w.heap.size + 1) x.data.toList wr hI).mono ?_
      rintro e w2 ⟨he, m, rfl⟩
      rw [bytes_back] at he
      subst he
      have hbd : Below wr.heap.size wr (wr.drewN m) := below_drewN' wr m
      go_wp2_with fail
      generalize wr.drewN m = w3 at hbd ⊢
      refine (c135u x _).mono ?_
      rintro e w4 ⟨rfl, hb4⟩
      obtain ⟨zs, z0, z1, z2, z3, z4, z5, z6, z7, z8, z9, zf⟩ := HZ3.out.below (keepS hb4 hbd)
      have hfin : Below w.heap.size w w4 := keepS (keepS hb4 hbd) hbw
      clear HZ1 HZ3 HI hI HD hb4 hbd hb hbw hbW
      go_wp2_with fail
      (refine bodyPost_ret (v := .agg #[.string ⟨#[]⟩, .float .f64 0, .string x, .slice none 0 0, .slice none 0 0, .bool false, .string ⟨#[]⟩, .int .u8 2, .pointer none, .pointer none]) ?_ rfl ?_; (focus (first | (simp [results, Tryz.results61, go_sem, hc1, hz1]; done) | (simp [results, Tryz.results61, go_sem]; done) | (simp [results, Tryz.results61, go_sem, *]; done))); exact ret_mk (by repeat (first | (with_reducible exact Below.refl _ _) | (with_reducible assumption) | ((with_reducible refine Below.alloc ?_ ?_ _); rotate_left; focus (first | exact Nat.le_refl _ | omega | (simp; done) | (simp; omega))) | ((with_reducible refine Below.setCell ?_ ?_ _); rotate_left; focus (first | exact Nat.le_refl _ | omega | (simp; done) | (simp; omega))) | (with_reducible refine Below.drew ?_) | (with_reducible refine below_drewN ?_ _) | ((with_reducible refine below_via (by assumption) ?_ ?_); focus (first | exact Nat.le_refl _ | omega | (simp; done) | (simp; omega))))))
set_option maxRecDepth 100000 in
set_option maxHeartbeats 1000000 in
theorem c39 (p : Option Addr) (L : Nat) (bs : List Nat) (ss : List ByteArray) (w : World) (h : DL w L bs (ss.map fun s => .iface 64 (fS s))) (h0 : 0 < bs.length) (hl : bs.length ≤ 20) (hs : ∀ s, s ∈ ss → s.size ≤ 1000) :
    Calls Tryz.prog 39 #[.pointer p, .pointer (some ⟨L, 0, none⟩)] w (Ret w (fS (cat ss))) := by
  have HZ := Lib.hid (z64_new w)
  have hbA : Below w.heap.size w (w.alloc (.cells #[.string ⟨#[]⟩, .float .f64 0, .string ⟨#[]⟩, .slice none 0 0, .slice none 0 0, .bool false, .string ⟨#[]⟩, .int .u8 0, .pointer none, .pointer none] 64)) := (by repeat (first | (with_reducible exact Below.refl _ _) | (with_reducible assumption) | ((with_reducible refine Below.alloc ?_ ?_ _); rotate_left; focus (first | exact Nat.le_refl _ | omega | (simp; done) | (simp; omega))) | ((with_reducible refine Below.setCell ?_ ?_ _); rotate_left; focus (first | exact Nat.le_refl _ | omega | (simp; done) | (simp; omega))) | (with_reducible refine Below.drew ?_) | (with_reducible refine below_drewN ?_ _) | ((with_reducible refine below_via (by assumption) ?_ ?_); focus (first | exact Nat.le_refl _ | omega | (simp; done) | (simp; omega)))))
  have H61 := Lib.hid (c61 p L bs ss _ (h.below hbA) h0 hl hs)
  clear h hs
  generalize cat ss = x at H61 ⊢
  unfold fS at H61 ⊢
  go_enter Tryz.func39, Tryz.ntmps39
  go_wp2_with fail
  refine H61.out.mono ?_
  rintro e w2 ⟨rfl, hb2⟩
  obtain ⟨zs, z0, z1, z2, z3, z4, z5, z6, z7, z8, z9, zf⟩ := HZ.out.below hb2
  have hfin : Below w.heap.size w w2 := keepS' hbA (by simp) hb2
  clear HZ hb2 H61
  go_wp2_with fail
  (refine bodyPost_ret (v := .agg #[.string ⟨#[]⟩, .float .f64 0, .string x, .slice none 0 0, .slice none 0 0, .bool false, .string ⟨#[]⟩, .int .u8 2, .pointer none, .pointer none]) ?_ rfl ?_; (focus (first | (simp [results, Tryz.results39, go_sem, hc1, hz1]; done) | (simp [results, Tryz.results39, go_sem]; done) | (simp [results, Tryz.results39, go_sem, *]; done))); exact ret_mk (by repeat (first | (with_reducible exact Below.refl _ _) | (with_reducible assumption) | ((with_reducible refine Below.alloc ?_ ?_ _); rotate_left; focus (first | exact Nat.le_refl _ | omega | (simp; done) | (simp; omega))) | ((with_reducible refine Below.setCell ?_ ?_ _); rotate_left; focus (first | exact Nat.le_refl _ | omega | (simp; done) | (simp; omega))) | (with_reducible refine Below.drew ?_) | (with_reducible refine below_drewN ?_ _) | ((with_reducible refine below_via (by assumption) ?_ ?_); focus (first | exact Nat.le_refl _ | omega | (simp; done) | (simp; omega))))))
set_option maxRecDepth 100000 in
set_option maxHeartbeats 2000000 in
theorem c32_S (t : ByteArray) (w : World) : Calls Tryz.prog 32 #[fS t] w (Ret w (.agg #[.int .i64 2, .float .f64 0, .string t, .slice none 0 0])) := by
  unfold fS
  go_enter Tryz.func32, Tryz.ntmps32
  go_wp2_with fail
  exact bodyPost_ret (v := .agg #[.int .i64 2, .float .f64 0, .string t, .slice none 0 0]) (by first | (simp [results, Tryz.results32, go_sem, hc1, hz1]; done) | (simp [results, Tryz.results32, go_sem]; done) | (simp [results, Tryz.results32, go_sem, *]; done)) rfl (ret_mk (by repeat (first | (with_reducible exact Below.refl _ _) | (with_reducible assumption) | ((with_reducible refine Below.alloc ?_ ?_ _); rotate_left; focus (first | exact Nat.le_refl _ | omega | (simp; done) | (simp; omega))) | ((with_reducible refine Below.setCell ?_ ?_ _); rotate_left; focus (first | exact Nat.le_refl _ | omega | (simp; done) | (simp; omega))) | (with_reducible refine Below.drew ?_) | (with_reducible refine below_drewN ?_ _) | ((with_reducible refine below_via (by assumption) ?_ ?_); focus (first | exact Nat.le_refl _ | omega | (simp; done) | (simp; omega))))))
def iS (s : ByteArray) : I := ⟨2, 0, s⟩
set_option maxRecDepth 100000 in
set_option maxHeartbeats 2000000 in
theorem c28 (ss : List ByteArray) (A : Option Addr) (c : Nat) (w : World) (hx : IRow w A (ss.map iS)) (h0 : 0 < ss.length) (hl : ss.length ≤ 20) (hs : ∀ s, s ∈ ss → s.size ≤ 1000) :
    Calls Tryz.prog 28 #[.slice A ss.length c] w (Ret w (.agg #[.int .i64 2, .float .f64 0, .string (cat ss), .slice none 0 0])) := by
  have h35 : ∀ W, Below w.heap.size w W → Calls Tryz.prog 35 #[.slice A ss.length c] W (fun e w' => ∃ L bs, e = .returned (.pointer (some ⟨L, 0, none⟩)) ∧ bs.length = ss.length ∧ DL w' L bs (ss.map fun s => .iface 64 (fS s)) ∧ Below W.heap.size W w') := fun W hW => by
    have h := c35 (fun i => fS i.t) (ss.map iS) A c W (by rw [List.length_map]; omega) (by rw [List.length_map]; exact h0) (CRow.below hx hW) ?_
    · rw [List.length_map, List.map_map] at h
      exact h
    · intro i hi w'
      obtain ⟨s, _, rfl⟩ := List.mem_map.1 hi
      exact c57_2 0 s w'
  have H35 := Lib.hid h35
  have H39 := Lib.hid (fun (p : Option Addr) (L : Nat) (bs : List Nat) W (hW : DL W L bs (ss.map fun s => .iface 64 (fS s))) (hb0 : bs.length = ss.length) => c39 p L bs ss W hW (by omega) (by omega) hs)
  clear h35 hx hs
  obtain ⟨n, hn⟩ : ∃ n, n = ss.length := ⟨_, rfl⟩
  rw [← hn] at H35 H39 hl h0 ⊢
  clear hn
  generalize cat ss = x at H39 ⊢
  have HZ := Lib.hid (zi_new w 50)
  have hbA : Below w.heap.size w (w.alloc (.cells #[.int .i64 0, .float .f64 0, .string ⟨#[]⟩, .slice none 0 0] 50)) := (by repeat (first | (with_reducible exact Below.refl _ _) | (with_reducible assumption) | ((with_reducible refine Below.alloc ?_ ?_ _); rotate_left; focus (first | exact Nat.le_refl _ | omega | (simp; done) | (simp; omega))) | ((with_reducible refine Below.setCell ?_ ?_ _); rotate_left; focus (first | exact Nat.le_refl _ | omega | (simp; done) | (simp; omega))) | (with_reducible refine Below.drew ?_) | (with_reducible refine below_drewN ?_ _) | ((with_reducible refine below_via (by assumption) ?_ ?_); focus (first | exact Nat.le_refl _ | omega | (simp; done) | (simp; omega)))))
  go_enter Tryz.func28, Tryz.ntmps28
  go_wp2_with fail
  refine (c33 _).mono ?_
  rintro e w1 ⟨_, rfl, ⟨p, rfl⟩, hb1⟩
  have hbw1 : Below w.heap.size w w1 := keepS' hbA (by simp) hb1
  go_wp2_with fail
  refine (H35.out w1 hbw1).mono ?_
  rintro e w2 ⟨L, bs, rfl, hbl, hd, hb2⟩
  have HD := Lib.hid hd
  clear hd
  go_wp2_with fail
  refine (H39.out p L bs w2 HD.out hbl).mono ?_
  rintro e w3 ⟨rfl, hb3⟩
  go_wp2_with fail
  refine (c32_S x w3).mono ?_
  rintro e w4 ⟨rfl, hb4⟩
  have hb14 := keepS hb4 (keepS hb3 (keepS hb2 hb1))
  obtain ⟨zs, z0, z1, z2, z3, zf⟩ := HZ.out.below hb14
  have hfin : Below w.heap.size w w4 := keepS' hbA (by simp) hb14
  clear hb1 hb2 hb3 hb4 hb14 HD H35 H39 hbw1 HZ
  go_wp2_with fail
  (refine bodyPost_ret (v := .agg #[.int .i64 2, .float .f64 0, .string x, .slice none 0 0]) ?_ rfl ?_; (focus (first | (simp [results, Tryz.results28, go_sem, hc1, hz1]; done) | (simp [results, Tryz.results28, go_sem]; done) | (simp [results, Tryz.results28, go_sem, *]; done))); exact ret_mk (by repeat (first | (with_reducible exact Below.refl _ _) | (with_reducible assumption) | ((with_reducible refine Below.alloc ?_ ?_ _); rotate_left; focus (first | exact Nat.le_refl _ | omega | (simp; done) | (simp; omega))) | ((with_reducible refine Below.setCell ?_ ?_ _); rotate_left; focus (first | exact Nat.le_refl _ | omega | (simp; done) | (simp; omega))) | (with_reducible refine Below.drew ?_) | (with_reducible refine below_drewN ?_ _) | ((with_reducible refine below_via (by assumption) ?_ ?_); focus (first | exact Nat.le_refl _ | omega | (simp; done) | (simp; omega))))))
set_option maxRecDepth 100000 in
set_option maxHeartbeats 2000000 in
theorem c15 (ss : List ByteArray) (A : Option Addr) (c : Nat) (w : World) (hx : IRow w A (ss.map iS)) (h0 : 0 < ss.length) (hl : ss.length ≤ 20) (hs : ∀ s, s ∈ ss → s.size ≤ 1000) :
    Calls Tryz.prog 15 #[.slice A ss.length c] w (Ret w (.agg #[.int .i64 2, .float .f64 0, .string (cat ss), .slice none 0 0])) := by
  have HX := Lib.hid (fun W (hW : Below w.heap.size w W) => c24 (ss.map iS) A c W (by rw [List.length_map]; omega) (by rw [List.length_map]; exact h0) (CRow.below hx hW))
  rw [List.length_map] at HX
  clear hx
  have H28 := Lib.hid (fun (A : Option Addr) (c : Nat) W (hW : IRow W A (ss.map iS)) => c28 ss A c W hW h0 hl hs)
  have HL : Hid ((ss.map iS).length = ss.length) := Lib.hid (List.length_map ..)
  clear hs
  obtain ⟨n, hn⟩ : ∃ n, n = ss.length := ⟨_, rfl⟩
  rw [← hn] at HX H28 HL hl h0 ⊢
  clear hn
  generalize cat ss = x at H28 ⊢
  generalize ss.map iS = is at HX H28 HL
  have HZ := Lib.hid (zi_new w 44)
  have hbA : Below w.heap.size w (w.alloc (.cells #[.int .i64 0, .float .f64 0, .string ⟨#[]⟩, .slice none 0 0] 44)) := (by repeat (first | (with_reducible exact Below.refl _ _) | (with_reducible assumption) | ((with_reducible refine Below.alloc ?_ ?_ _); rotate_left; focus (first | exact Nat.le_refl _ | omega | (simp; done) | (simp; omega))) | ((with_reducible refine Below.setCell ?_ ?_ _); rotate_left; focus (first | exact Nat.le_refl _ | omega | (simp; done) | (simp; omega))) | (with_reducible refine Below.drew ?_) | (with_reducible refine below_drewN ?_ _) | ((with_reducible refine below_via (by assumption) ?_ ?_); focus (first | exact Nat.le_refl _ | omega | (simp; done) | (simp; omega)))))
  go_enter Tryz.func15, Tryz.ntmps15
  go_wp2_with fail
  refine (HX.out _ hbA).mono ?_
  rintro e w1 ⟨A1, c1, he, hx1, hb1⟩
  rw [HL.out] at he
  subst he
  have HX1 := Lib.hid hx1
  clear hx1
  go_wp2_with fail
  refine (H28.out A1 c1 w1 HX1.out).mono ?_
  rintro e w2 ⟨rfl, hb2⟩
  go_wp2_with fail
  refine (c22 ⟨2, 0, x⟩ w2).mono ?_
  rintro e w4 ⟨rfl, hb4⟩
  have hb14 := keepS hb4 (keepS hb2 hb1)
  obtain ⟨zs, z0, z1, z2, z3, zf⟩ := HZ.out.below hb14
  have hfin : Below w.heap.size w w4 := keepS' hbA (by simp) hb14
  clear hb1 hb2 hb4 hb14 HX HX1 H28 HZ
  go_wp2_with fail
  (refine bodyPost_ret (v := .agg #[.int .i64 2, .float .f64 0, .string x, .slice none 0 0]) ?_ rfl ?_; (focus (first | (simp [results, Tryz.results15, go_sem, hc1, hz1]; done) | (simp [results, Tryz.results15, go_sem]; done) | (simp [results, Tryz.results15, go_sem, *]; done))); exact ret_mk (by repeat (first | (with_reducible exact Below.refl _ _) | (with_reducible assumption) | ((with_reducible refine Below.alloc ?_ ?_ _); rotate_left; focus (first | exact Nat.le_refl _ | omega | (simp; done) | (simp; omega))) | ((with_reducible refine Below.setCell ?_ ?_ _); rotate_left; focus (first | exact Nat.le_refl _ | omega | (simp; done) | (simp; omega))) | (with_reducible refine Below.drew ?_) | (with_reducible refine below_drewN ?_ _) | ((with_reducible refine below_via (by assumption) ?_ ?_); focus (first | exact Nat.le_refl _ | omega | (simp; done) | (simp; omega))))))
end Go.Proofs.YtpahhejkpdkjmaaGreatDoor
