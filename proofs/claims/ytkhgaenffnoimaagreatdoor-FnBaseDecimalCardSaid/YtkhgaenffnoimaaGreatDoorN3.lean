/- FormatInt in every base; ToUpper of its text. -/
import Derived.Test.YtkhgaenffnoimaaGreatDoorN2
import Derived.Test.YtkhgaenffnoimaaGreatDoorNS
import Derived.Lib.AppendIntMem
set_option linter.unusedSimpArgs false
set_option linter.unusedVariables false
namespace Go.Proofs.YtkhgaenffnoimaaGreatDoor
open Go.RowKit
attribute [local go_sem] run_store_float
def uch (d : Nat) : Nat := if d < 10 then 48 + d else 55 + d
/-- A number's numeral in a base, in small and in great letters. -/
def lowT (b n : Nat) : ByteArray := ⟨((digs b 40 n).map fun d => UInt8.ofNat (lch d)).toArray⟩
def upT (b n : Nat) : ByteArray := ⟨((digs b 40 n).map fun d => UInt8.ofNat (uch d)).toArray⟩
theorem upper_fin : ∀ d : Fin 36, Lib.upperB (UInt8.ofNat (lch d.val)) = UInt8.ofNat (uch d.val) := by decide +kernel
theorem upper_low (b n : Nat) (h0 : 2 ≤ b) (h1 : b ≤ 36) : (⟨(Lib.toUpperA (lowT b n).data.toList).toArray⟩ : ByteArray) = upT b n := by
  unfold lowT upT Lib.toUpperA
  simp only [List.map_map]
  congr 2
  refine List.map_congr_left fun d hd => ?_
  have := digs_mem b h0 40 n d hd
  exact upper_fin ⟨d, by omega⟩
theorem digs_len (b : Nat) : ∀ (f n : Nat), (digs b f n).length ≤ f
  | 0, n => Nat.le_refl _
  | f + 1, n => by
    rw [digs]
    split
    · simp
    · rw [List.length_append]
      have := digs_len b f (n / b)
      simp
      omega
theorem lowT_size (b n : Nat) : (lowT b n).size ≤ 40 := by
  have := digs_len b 40 n
  unfold lowT
  simpa [ByteArray.size] using this
theorem upT_size (b n : Nat) : (upT b n).size ≤ 40 := by
  have := digs_len b 40 n
  unfold upT
  simpa [ByteArray.size] using this
theorem dec_digs : ∀ (f n : Nat), n < 10 ^ f → 0 < f → Lib.decDigits n = (digs 10 f n).map fun d => UInt8.ofNat (lch d)
  | 0, n, _, h0 => by omega
  | f + 1, n, h, _ => by
    rw [Lib.decDigits, digs]
    by_cases h10 : n < 10
    · rw [dif_pos h10, if_pos h10]
      simp [lch, h10]
    · have hf : 0 < f := by
        rcases Nat.eq_zero_or_pos f with h' | h'
        · subst h'
          simp at h
          omega
        · exact h'
      have hlt : n / 10 < 10 ^ f := by
        rw [Nat.pow_succ] at h
        exact (Nat.div_lt_iff_lt_mul (by decide)).2 h
      rw [dif_neg h10, if_neg h10, dec_digs f (n / 10) hlt hf, List.map_append]
      simp [lch, Nat.mod_lt n (show 0 < 10 by decide)]
/-- What the bases' tables must be. -/
def Tab (w : World) : Prop := DB w ∧ Lib.TabIs Tryz.prog w "internal/strconv.uint64pow10" .u64 Lib.pow10Tab
theorem Tab.below {w w1 : World} {B : Nat} (h : Tab w) (hb : Below B w w1) (hB : 15 ≤ B) : Tab w1 := by
  refine ⟨h.1.below hb (by omega), ?_⟩
  have h2 := h.2
  have hg : Tryz.prog.globalNamed "internal/strconv.uint64pow10" = some 3 := by kernel_rfl
  unfold Lib.TabIs World.var? at *
  simp only [hg, Option.bind_some] at h2 ⊢
  rw [hb.block 3 (by omega)]
  exact h2
set_option maxRecDepth 100000 in
set_option maxHeartbeats 1000000 in
theorem c112 (b n : Nat) (w : World) (h0 : 2 ≤ b) (h1 : b ≤ 36) (h10 : b ≠ 10) (hn : n ≤ 99999999999) (hT : DB w) :
    Calls Tryz.prog 112 #[.int .i64 n, .int .i64 b] w (Ret w (.string (lowT b n))) := by
  have H142 : Hid (Calls Tryz.prog 142 #[.slice none 0 0, .int .u64 n, .int .i64 b, .bool false, .bool false] w (Ret w (.tuple #[.slice none 0 0, .string (lowT b n)]))) := Lib.hid (by
    by_cases hp : isP2 b = true
    · have hb5 : b = 2 ^ 1 ∨ b = 2 ^ 2 ∨ b = 2 ^ 3 ∨ b = 2 ^ 4 ∨ b = 2 ^ 5 := by
        unfold isP2 at hp
        simp only [Bool.or_eq_true, beq_iff_eq] at hp
        omega
      rcases hb5 with h | h | h | h | h
      · exact c142P b 1 n w (by omega) (by omega) h hn hT
      · exact c142P b 2 n w (by omega) (by omega) h hn hT
      · exact c142P b 3 n w (by omega) (by omega) h hn hT
      · exact c142P b 4 n w (by omega) (by omega) h hn hT
      · exact c142P b 5 n w (by omega) (by omega) h hn hT
    · exact c142G b n w h0 h1 h10 (by simpa using hp) hn)
  have h10' : ((b : Int) == 10) = false := by
    have : ¬ (b : Int) = 10 := by omega
    simpa using this
  have hwn : IntKind.u64.wrap (n : Int) = (n : Int) := wrap_u64_nat n (by omega)
  clear hT
  go_enter Tryz.func112, Tryz.ntmps112
  go_wp2_with fail
  refine H142.out.mono ?_
  rintro e w1 ⟨rfl, hb1⟩
  go_wp2_with fail
  go_ret
  exact ret_mk hb1
set_option maxRecDepth 100000 in
set_option maxHeartbeats 1000000 in
theorem c79 (b n : Nat) (w : World) (h0 : 2 ≤ b) (h1 : b ≤ 36) (hn : n ≤ 99999999999) (hT : Tab w) :
    Calls Tryz.prog 79 #[.int .i64 n, .int .i64 b] w (Ret w (.string (lowT b n))) := by
  by_cases h10 : b = 10
  · subst h10
    refine (Tryz.strconv_FormatInt_10 n (by omega) (by omega) w hT.2).mono ?_
    rintro e w1 ⟨rfl, k, os, rfl⟩
    refine ⟨?_, Lib.below_grow _ _ (Nat.le_refl _) _ _⟩
    rw [Lib.itoa_nonneg, dec_digs 40 n (by omega) (by decide)]
    rfl
  · have H := Lib.hid (c112 b n w h0 h1 h10 hn hT.1)
    clear hT
    go_enter Tryz.func79, Tryz.ntmps79
    go_wp2_with fail
    refine H.out.mono ?_
    rintro e w1 ⟨rfl, hb1⟩
    go_wp2_with fail
    go_ret
    exact ret_mk hb1
theorem low_ascii (b n : Nat) (h0 : 2 ≤ b) (h1 : b ≤ 36) : ∀ (j : Nat) (c : UInt8), (lowT b n).data.toList[j]? = some c → c.toNat < 128 := by
  intro j c hc
  unfold lowT at hc
  simp only [List.getElem?_map] at hc
  obtain ⟨d, hd, rfl⟩ := Option.map_eq_some_iff.1 hc
  have := digs_mem b h0 40 n d (List.mem_of_getElem? hd)
  have h3 := lch_lt d (by omega)
  rw [UInt8.toNat_ofNat']
  omega
theorem c82 (b n : Nat) (w : World) (h0 : 2 ≤ b) (h1 : b ≤ 36) : Calls Tryz.prog 82 #[.string (lowT b n)] w (Ret w (.string (upT b n))) := by
  refine (Tryz.strings_ToUpper_ascii (lowT b n) w (by have := lowT_size b n; omega) (low_ascii b n h0 h1)).mono ?_
  rintro e w1 ⟨rfl, hb⟩
  rw [upper_low b n h0 h1]
  exact ⟨rfl, hb⟩
end Go.Proofs.YtkhgaenffnoimaaGreatDoor
