/- The decimal digits of a number, as a reader goes through them. -/
import Derived.Test.YtkhgaenffnoimaaGreatDoorK1
set_option linter.unusedSimpArgs false
set_option linter.unusedVariables false
namespace Go.Proofs.YtkhgaenffnoimaaGreatDoor
open Go.RowKit
def ddg (n : Nat) : List Nat := if n < 10 then [n] else ddg (n / 10) ++ [n % 10]
theorem ddg_small (n : Nat) (h : n < 10) : ddg n = [n] := by rw [ddg, if_pos h]
theorem ddg_big (n : Nat) (h : ¬ n < 10) : ddg n = ddg (n / 10) ++ [n % 10] := by rw [ddg, if_neg h]
theorem ofNat_48 (r : Nat) (h : r < 10) : 48 + UInt8.ofNat r = UInt8.ofNat (48 + r) := by
  have h : r = 0 ∨ r = 1 ∨ r = 2 ∨ r = 3 ∨ r = 4 ∨ r = 5 ∨ r = 6 ∨ r = 7 ∨ r = 8 ∨ r = 9 := by omega
  rcases h with rfl | rfl | rfl | rfl | rfl | rfl | rfl | rfl | rfl | rfl <;> rfl
theorem dec_ddg (n : Nat) : dec n = (ddg n).map fun d => UInt8.ofNat (48 + d) := by
  induction n using Nat.strongRecOn with
  | _ n ih =>
    by_cases h : n < 10
    · rw [dec, if_pos h, ddg_small n h, Nat.mod_eq_of_lt h, ofNat_48 n h]; rfl
    · rw [dec, if_neg h, ddg_big n h, List.map_append, ih (n / 10) (by omega), ofNat_48 _ (Nat.mod_lt _ (by decide))]; rfl
theorem ddg_lt (n : Nat) : ∀ d, d ∈ ddg n → d < 10 := by
  induction n using Nat.strongRecOn with
  | _ n ih =>
    intro d hd
    by_cases h : n < 10
    · rw [ddg_small n h] at hd; simp at hd; omega
    · rw [ddg_big n h] at hd
      rcases List.mem_append.1 hd with hd | hd
      · exact ih (n / 10) (by omega) d hd
      · simp at hd; omega
theorem ddg_head (n : Nat) : n ≠ 0 → ∃ d ds, ddg n = d :: ds ∧ d ≠ 0 := by
  induction n using Nat.strongRecOn with
  | _ n ih =>
    intro h0
    by_cases h : n < 10
    · exact ⟨n, [], ddg_small n h, h0⟩
    · obtain ⟨d, ds, e, hd⟩ := ih (n / 10) (by omega) (by omega)
      exact ⟨d, ds ++ [n % 10], by rw [ddg_big n h, e]; rfl, hd⟩
def val10 (ds : List Nat) : Nat := ds.foldl (fun a d => a * 10 + d) 0
theorem val10_snoc (ds : List Nat) (d : Nat) : val10 (ds ++ [d]) = val10 ds * 10 + d := by unfold val10; rw [List.foldl_append]; rfl
theorem val10_ddg (n : Nat) : val10 (ddg n) = n := by
  induction n using Nat.strongRecOn with
  | _ n ih =>
    by_cases h : n < 10
    · rw [ddg_small n h]; simp [val10]
    · rw [ddg_big n h, val10_snoc, ih (n / 10) (by omega)]; omega
theorem val10_take (ds : List Nat) (q d : Nat) (h : ds[q]? = some d) : val10 (ds.take (q + 1)) = val10 (ds.take q) * 10 + d := by
  rw [List.take_add_one, h, Option.toList_some, val10_snoc]
theorem val10_mono (ds : List Nat) : ∀ k q, q + k = ds.length → val10 (ds.take q) ≤ val10 ds
  | 0, q, h => by rw [List.take_of_length_le (by omega)]; exact Nat.le_refl _
  | k + 1, q, h => by
    have h1 := val10_mono ds k (q + 1) (by omega)
    rw [val10_take ds q _ (List.getElem?_eq_getElem (by omega))] at h1
    omega
/-- A text of digits behind p signs. -/
structure DT (s : ByteArray) (p n : Nat) (ds : List Nat) : Prop where
  size : s.size = p + ds.length
  pos : 0 < ds.length
  few : ds.length ≤ 18
  dat : ∀ q d (hq : ds[q]? = some d) (h : p + q < s.size), (s[p + q]'h).toNat = 48 + d
  dig : ∀ d, d ∈ ds → d < 10
  val : val10 ds = n
  head : n ≠ 0 → ∃ d r, ds = d :: r ∧ d ≠ 0
theorem ddg_len (n : Nat) : (ddg n).length = (dec n).length := by rw [dec_ddg, List.length_map]
theorem u8_48 (d : Nat) (h : d < 10) : (UInt8.ofNat (48 + d)).toNat = 48 + d := by rw [UInt8.toNat_ofNat']; omega
theorem dt_pos (n : Nat) (h : n ≤ 999999999999999999) : DT (decS n) 0 n (ddg n) where
  size := by rw [decS_size, ddg_len]; omega
  pos := by rw [ddg_len]; exact dec_len n
  few := by rw [ddg_len]; exact dec_len_le 17 n (by omega)
  dat := fun q d hq h => by
    have e : (decS n)[0 + q]'h = (dec n)[q]'(by rw [decS_size] at h; omega) := by
      simp only [Nat.zero_add]
      rfl
    have h2 : (dec n)[q]? = some (UInt8.ofNat (48 + d)) := by rw [dec_ddg, List.getElem?_map, hq]; rfl
    rw [e, (List.getElem?_eq_some_iff.1 h2).2, u8_48 d (ddg_lt n d (List.mem_of_getElem? hq))]
  dig := ddg_lt n
  val := val10_ddg n
  head := ddg_head n
theorem dt_neg (n : Nat) (h : n ≤ 999999999999999999) : DT (⟨#[45]⟩ ++ decS n) 1 n (ddg n) where
  size := by rw [ByteArray.size_append, decS_size, ddg_len]; rfl
  pos := by rw [ddg_len]; exact dec_len n
  few := by rw [ddg_len]; exact dec_len_le 17 n (by omega)
  dat := fun q d hq h => by
    have hlt : q < (dec n).length := by rw [ByteArray.size_append, decS_size] at h; have : (⟨#[45]⟩ : ByteArray).size = 1 := rfl; omega
    have e : ((⟨#[45]⟩ : ByteArray) ++ decS n)[1 + q]'h = (dec n)[q]'hlt := by
      rw [ByteArray.getElem_append_right (by show 1 ≤ 1 + q; omega)]
      have e2 : 1 + q - (⟨#[45]⟩ : ByteArray).size = q := by show 1 + q - 1 = q; omega
      simp only [e2]
      rfl
    have h2 : (dec n)[q]? = some (UInt8.ofNat (48 + d)) := by rw [dec_ddg, List.getElem?_map, hq]; rfl
    rw [e, (List.getElem?_eq_some_iff.1 h2).2, u8_48 d (ddg_lt n d (List.mem_of_getElem? hq))]
  dig := ddg_lt n
  val := val10_ddg n
  head := ddg_head n
end Go.Proofs.YtkhgaenffnoimaaGreatDoor
