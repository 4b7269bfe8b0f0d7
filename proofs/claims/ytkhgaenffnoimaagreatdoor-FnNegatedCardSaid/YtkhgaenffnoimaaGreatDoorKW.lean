/- The six comparisons of whole numbers; how many numbers a pair of them counts. -/
import Derived.Test.YtkhgaenffnoimaaGreatDoorKT
set_option linter.unusedSimpArgs false
set_option linter.unusedVariables false
namespace Go.Proofs.YtkhgaenffnoimaaGreatDoor
open Go.RowKit FL
theorem ord_foi (a b : Int) (ha : a.natAbs ≤ 9999) (hb : b.natAbs ≤ 9999) : FloatKind.f64.format.order (floatOfInt FloatKind.f64 a) (floatOfInt FloatKind.f64 b) = some (compare (16 * a) (16 * b)) := by
  rw [foi_F16 a (by omega), foi_F16 b (by omega)]
  exact order_F16 (16 * a) (16 * b) (by omega) (by omega)
theorem ord_lt {a b : Int} (ha : a.natAbs ≤ 9999) (hb : b.natAbs ≤ 9999) (h : a < b) : FloatKind.f64.format.order (floatOfInt FloatKind.f64 a) (floatOfInt FloatKind.f64 b) = some Ordering.lt := by
  rw [ord_foi a b ha hb]
  simp only [compare, compareOfLessAndEq]
  rw [if_pos (by omega)]
theorem ord_eq {a b : Int} (ha : a.natAbs ≤ 9999) (hb : b.natAbs ≤ 9999) (h : a = b) : FloatKind.f64.format.order (floatOfInt FloatKind.f64 a) (floatOfInt FloatKind.f64 b) = some Ordering.eq := by
  rw [ord_foi a b ha hb]
  simp only [compare, compareOfLessAndEq]
  rw [if_neg (by omega), if_pos (by omega)]
theorem ord_gt {a b : Int} (ha : a.natAbs ≤ 9999) (hb : b.natAbs ≤ 9999) (h : b < a) : FloatKind.f64.format.order (floatOfInt FloatKind.f64 a) (floatOfInt FloatKind.f64 b) = some Ordering.gt := by
  rw [ord_foi a b ha hb]
  simp only [compare, compareOfLessAndEq]
  rw [if_neg (by omega), if_neg (by omega)]
theorem c103_N (kc ke : Int) (hc : kc.natAbs ≤ 9999) (he : ke.natAbs ≤ 9999) (S L : Nat) (w : World) (h : ST0 w S L) :
    Calls Tryz.prog 103 #[fN (floatOfInt FloatKind.f64 kc), fN (floatOfInt FloatKind.f64 ke), .pointer (some ⟨S, 0, none⟩)] w (Calc w S L (decide (ke < kc))) := by
  rcases Int.lt_trichotomy ke kc with h1 | h1 | h1
  · rw [show decide (ke < kc) = true by simp; omega]
    exact c103_lt _ _ S L w h (ord_lt he hc h1)
  · rw [show decide (ke < kc) = false by simp; omega]
    exact c103_eq _ _ S L w h (ord_eq he hc h1)
  · rw [show decide (ke < kc) = false by simp; omega]
    exact c103_gt _ _ S L w h (ord_gt he hc h1)
theorem c104_N (kc ke : Int) (hc : kc.natAbs ≤ 9999) (he : ke.natAbs ≤ 9999) (S L : Nat) (w : World) (h : ST0 w S L) :
    Calls Tryz.prog 104 #[fN (floatOfInt FloatKind.f64 kc), fN (floatOfInt FloatKind.f64 ke), .pointer (some ⟨S, 0, none⟩)] w (Calc w S L (decide (ke ≤ kc))) := by
  rcases Int.lt_trichotomy ke kc with h1 | h1 | h1
  · rw [show decide (ke ≤ kc) = true by simp; omega]
    exact c104_lt _ _ S L w h (ord_lt he hc h1)
  · rw [show decide (ke ≤ kc) = true by simp; omega]
    exact c104_eq _ _ S L w h (ord_eq he hc h1)
  · rw [show decide (ke ≤ kc) = false by simp; omega]
    exact c104_gt _ _ S L w h (ord_gt he hc h1)
theorem c105_N (kc ke : Int) (hc : kc.natAbs ≤ 9999) (he : ke.natAbs ≤ 9999) (S L : Nat) (w : World) (h : ST0 w S L) :
    Calls Tryz.prog 105 #[fN (floatOfInt FloatKind.f64 kc), fN (floatOfInt FloatKind.f64 ke), .pointer (some ⟨S, 0, none⟩)] w (Calc w S L (decide (kc < ke))) := by
  rcases Int.lt_trichotomy ke kc with h1 | h1 | h1
  · rw [show decide (kc < ke) = false by simp; omega]
    exact c105_lt _ _ S L w h (ord_lt he hc h1)
  · rw [show decide (kc < ke) = false by simp; omega]
    exact c105_eq _ _ S L w h (ord_eq he hc h1)
  · rw [show decide (kc < ke) = true by simp; omega]
    exact c105_gt _ _ S L w h (ord_gt he hc h1)
theorem c106_N (kc ke : Int) (hc : kc.natAbs ≤ 9999) (he : ke.natAbs ≤ 9999) (S L : Nat) (w : World) (h : ST0 w S L) :
    Calls Tryz.prog 106 #[fN (floatOfInt FloatKind.f64 kc), fN (floatOfInt FloatKind.f64 ke), .pointer (some ⟨S, 0, none⟩)] w (Calc w S L (decide (kc ≤ ke))) := by
  rcases Int.lt_trichotomy ke kc with h1 | h1 | h1
  · rw [show decide (kc ≤ ke) = false by simp; omega]
    exact c106_lt _ _ S L w h (ord_lt he hc h1)
  · rw [show decide (kc ≤ ke) = true by simp; omega]
    exact c106_eq _ _ S L w h (ord_eq he hc h1)
  · rw [show decide (kc ≤ ke) = true by simp; omega]
    exact c106_gt _ _ S L w h (ord_gt he hc h1)
/-- What a comparison, told by its byte, says of a number e beside c. -/
def cmpB (o : Nat) (c e : Int) : Bool :=
  match o with
  | 11 => eqT c e
  | 14 => !eqT c e
  | 15 => decide (e < c)
  | 12 => decide (e ≤ c)
  | 16 => decide (c < e)
  | _ => decide (c ≤ e)
theorem c75_N (o : Nat) (ho : o = 11 ∨ o = 12 ∨ o = 13 ∨ o = 14 ∨ o = 15 ∨ o = 16) (kc ke : Int) (hc : kc.natAbs ≤ 9999) (he : ke.natAbs ≤ 9999) (g : Nat) (w : World) (hT : FT w) (hTb : Tabs w) (hC : CritC w g o (floatOfInt FloatKind.f64 kc)) :
    Calls Tryz.prog 75 #[fN (floatOfInt FloatKind.f64 ke), .pointer (some ⟨g, 0, none⟩)] w (Ret w (.tuple #[.bool (cmpB o kc ke), .nilIface])) := by
  rcases ho with rfl | rfl | rfl | rfl | rfl | rfl
  · exact c75_11 _ _ g _ w hC fun W S L hW hS => c101 kc ke S L W hS hc he (hTb.below hW hT.1)
  · exact c75_12 _ _ g _ w hC fun W S L hW hS => c104_N kc ke hc he S L W hS
  · exact c75_13 _ _ g _ w hC fun W S L hW hS => c106_N kc ke hc he S L W hS
  · exact c75_14 _ _ g _ w hC fun W S L hW hS => c102 kc ke S L W hS hc he (hTb.below hW hT.1)
  · exact c75_15 _ _ g _ w hC fun W S L hW hS => c103_N kc ke hc he S L W hS
  · exact c75_16 _ _ g _ w hC fun W S L hW hS => c105_N kc ke hc he S L W hS
/-- The letters of a comparison. -/
def cmpL (o : Nat) : List UInt8 :=
  match o with
  | 11 => [61]
  | 14 => [60, 62]
  | 15 => [60]
  | 12 => [60, 61]
  | 16 => [62]
  | _ => [62, 61]
theorem c99_N (o : Nat) (ho : o = 11 ∨ o = 12 ∨ o = 13 ∨ o = 14 ∨ o = 15 ∨ o = 16) (kc : Int) (hc : kc.natAbs ≤ 9999) (w : World) :
    Calls Tryz.prog 99 #[.string (⟨(cmpL o).toArray⟩ ++ plainS kc)] w (Ret w (.tuple #[.int .u8 o, .string (plainS kc), .bool true])) := by
  have hsz : (plainS kc).size ≤ 100 := by rw [plainS_size]; have := nDigits_le6 kc.natAbs (by omega); split <;> omega
  rcases ho with rfl | rfl | rfl | rfl | rfl | rfl
  · exact c99_eq _ _ w (ct_mk _ _) (numT kc) hsz
  · exact c99_le _ _ w (ct_mk _ _) (numT kc) hsz
  · exact c99_ge _ _ w (ct_mk _ _) (numT kc) hsz
  · exact c99_ne _ _ w (ct_mk _ _) (numT kc) hsz
  · exact c99_lt _ _ w (ct_mk _ _) (numT kc) hsz
  · exact c99_gt _ _ w (ct_mk _ _) (numT kc) hsz
theorem crit_ne (o : Nat) (num : ByteArray) (ho : o = 11 ∨ o = 12 ∨ o = 13 ∨ o = 14 ∨ o = 15 ∨ o = 16) : (((⟨(cmpL o).toArray⟩ : ByteArray) ++ num)).toList.isEmpty = false := by
  rw [ByteArray.toList_eq]
  rcases ho with rfl | rfl | rfl | rfl | rfl | rfl <;> simp [ByteArray.data_append, cmpL]
/-- COUNTIF of a column and a comparison with a number. -/
theorem countN (o : Nat) (ho : o = 11 ∨ o = 12 ∨ o = 13 ∨ o = 14 ∨ o = 15 ∨ o = 16) (ks : List Int) (kc : Int) (A : Option Addr) (c L1 L2 B L b0 b1 : Nat) (pp : Value) (w : World) (hl : ks.length ≤ 120) (h0 : 0 < ks.length)
    (hkk : ∀ k, k ∈ ks → -9999 ≤ k ∧ k ≤ 9999) (hkc : kc.natAbs ≤ 9999) (hT : FT w) (hTb : Tabs w) (hx : FM w B ks A L1 L2)
    (hd : DL w L [b0, b1] [.iface 68 (fM A ks.length c L1 L2), .iface 68 (fS (⟨(cmpL o).toArray⟩ ++ plainS kc))]) :
    Calls Tryz.prog 52 #[pp, .pointer (some ⟨L, 0, none⟩)] w (Ret w (fN (F16 (16 * (ks.countP (cmpB o kc) : Int))))) :=
  c52MT ks (cmpB o kc) _ o kc A ks.length c L1 L2 B L b0 b1 pp w hl h0 rfl hkc hT (crit_ne o _ ho) (c99_N o ho kc hkc)
    (fun W g hW hC k hk => c75_N o ho kc k hkc (by have := hkk k hk; omega) g W (hT.below hW hT.1) (hTb.below hW hT.1) hC) hx hd
theorem count_two (ks : List Int) (p q : Int → Bool) (h : ∀ k, q k = !p k) : (ks.countP p : Int) + (ks.countP q : Int) = (ks.length : Int) := by
  induction ks with
  | nil => rfl
  | cons k ks ih =>
    rw [List.countP_cons, List.countP_cons, h k]
    simp only [List.length_cons]
    cases p k <;> simp <;> omega
theorem pair1 (c e : Int) : cmpB 16 c e = !cmpB 12 c e := by
  simp only [cmpB]
  by_cases h : c < e
  · simp [h, show ¬ e ≤ c by omega]
  · simp [h, show e ≤ c by omega]
theorem pair2 (c e : Int) : cmpB 15 c e = !cmpB 13 c e := by
  simp only [cmpB]
  by_cases h : e < c
  · simp [h, show ¬ c ≤ e by omega]
  · simp [h, show c ≤ e by omega]
theorem pair3 (c e : Int) : cmpB 14 c e = !cmpB 11 c e := rfl
end Go.Proofs.YtkhgaenffnoimaaGreatDoor
