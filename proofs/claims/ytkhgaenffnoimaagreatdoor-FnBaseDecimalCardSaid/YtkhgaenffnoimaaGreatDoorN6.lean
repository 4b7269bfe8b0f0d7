/- ParseInt; DECIMAL of the implementation. -/
import Derived.Test.YtkhgaenffnoimaaGreatDoorN5
set_option linter.unusedSimpArgs false
set_option linter.unusedVariables false
namespace Go.Proofs.YtkhgaenffnoimaaGreatDoor
open Go.RowKit FL
attribute [local go_sem] run_store_float as64
/-- A number's numeral in great letters, as ParseInt wants it. -/
structure UT (b n : Nat) (s : ByteArray) : Prop where
  ne : s.toList.isEmpty = false
  lt : 0 < s.size
  at0 : ∃ c : Nat, (48 ≤ c ∧ c ≤ 90) ∧ (s[0]'lt).toNat = c
  px : Lib.hasPrefix s.data.toList [48, 120] = false
  pX : Lib.hasPrefix s.data.toList [48, 88] = false
  pu : ∀ w, Calls Tryz.prog 152 #[.string s, .int .i64 b, .int .i64 64] w (Ret w (.tuple #[.int .u64 n, .nilIface]))
theorem digs_pos (b : Nat) : ∀ f n, 0 < f → 0 < (digs b f n).length
  | 0, n, h => by omega
  | f + 1, n, _ => by
    rw [digs]
    split
    · simp
    · simp
theorem digs_head (b : Nat) (hb : 2 ≤ b) : ∀ f n, n < b ^ f → 0 < n → ∃ d ds, digs b f n = d :: ds ∧ d ≠ 0
  | 0, n, h, h0 => by simp at h; omega
  | f + 1, n, h, h0 => by
    rw [digs]
    split
    · exact ⟨n, [], rfl, by omega⟩
    · obtain ⟨d, ds, e, hd⟩ := digs_head b hb f (n / b) (by rw [Nat.pow_succ] at h; exact (Nat.div_lt_iff_lt_mul (by omega)).2 h) (Nat.div_pos (by omega) (by omega))
      exact ⟨d, ds ++ [n % b], by rw [e]; rfl, hd⟩
theorem pow40 (b n : Nat) (h0 : 2 ≤ b) (hn : n ≤ 99999999999) : n < b ^ 40 := by
  have : 2 ^ 40 ≤ b ^ 40 := Nat.pow_le_pow_left h0 40
  omega
theorem ut_of (b n : Nat) (h0 : 2 ≤ b) (h1 : b ≤ 36) (hn : n ≤ 99999999999) : UT b n (upT b n) := by
  have hl := digs_pos b 40 n (by decide)
  have hl2 := digs_len b 40 n
  have hv := val_digs b h0 40 n (pow40 b n h0 hn) (by decide)
  have hm : ∀ d, d ∈ digs b 40 n → d < b := fun d hd => digs_mem b h0 40 n d hd
  have hs : (upT b n).data.toList = (digs b 40 n).map fun d => UInt8.ofNat (uch d) := rfl
  have hsz : (upT b n).size = (digs b 40 n).length := by
    have := congrArg List.length hs
    rw [List.length_map] at this
    exact this
  have hpre : ∀ x, Lib.hasPrefix (upT b n).data.toList [48, x] = false := by
    intro x
    rw [hs]
    by_cases h00 : n = 0
    · subst h00
      rw [digs_last b 39 0 (by omega)]
      rfl
    · obtain ⟨d, ds, e, hd⟩ := digs_head b h0 40 n (pow40 b n h0 hn) (by omega)
      have hdb := hm d (by rw [e]; simp)
      rw [e]
      have hne : (48 == UInt8.ofNat (uch d)) = false := by
        have : ¬ 48 = UInt8.ofNat (uch d) := by
          intro h
          have h2 := congrArg UInt8.toNat h
          rw [UInt8.toNat_ofNat'] at h2
          have h3 := uch_lt d (by omega)
          have h4 : uch d = 48 := by
            have : (48 : UInt8).toNat = 48 := rfl
            omega
          unfold uch at h4
          split at h4 <;> omega
        simpa using this
      simp [Lib.hasPrefix, List.isPrefixOf, hne]
  have hne : (upT b n).toList.isEmpty = false := by
    rw [ByteArray.toList_eq, hs]
    cases hd : digs b 40 n with
    | nil => rw [hd] at hl; simp at hl
    | cons d ds => rfl
  refine ⟨hne, by omega, ?_, hpre 120, hpre 88, fun w => ?_⟩
  · cases hd : digs b 40 n with
    | nil => rw [hd] at hl; simp at hl
    | cons d ds =>
      have hdb := hm d (by rw [hd]; simp)
      refine ⟨uch d, by unfold uch; split <;> omega, ?_⟩
      have e : (upT b n)[0]'(by omega) = UInt8.ofNat (uch d) := by
        unfold upT
        simp [hd, ByteArray.getElem_eq_getElem_data]
      rw [e, UInt8.toNat_ofNat']
      have := uch_lt d (by omega)
      omega
  · have := c152 b (digs b 40 n) (upT b n) w h0 h1 hs hl hl2 hm (by omega)
    rw [hv] at this
    exact this
set_option maxRecDepth 100000 in
set_option maxHeartbeats 1000000 in
theorem c122 (b n : Nat) (s : ByteArray) (w : World) (hn : n ≤ 99999999999) (h : UT b n s) :
    Calls Tryz.prog 122 #[.string s, .int .i64 b, .int .i64 64] w (Ret w (.tuple #[.int .i64 n, .nilIface])) := by
  obtain ⟨hne, hlt, ⟨c, ⟨hc0, hc1⟩, hat⟩, _, _, hpu⟩ := h
  have HP := Lib.hid hpu
  have h43 : ((c : Int) == 43) = false := by
    have : ¬ (c : Int) = 43 := by omega
    simpa using this
  have h45 : ((c : Int) == 45) = false := by
    have : ¬ (c : Int) = 45 := by omega
    simpa using this
  have hge : ¬ (9223372036854775808 : Int) ≤ (n : Int) := by omega
  have hge' : decide ((9223372036854775808 : Int) ≤ (n : Int)) = false := by simpa using hge
  have k63 : IntKind.u64.wrap 9223372036854775808 = 9223372036854775808 := by decide
  have kn : IntKind.i64.wrap (n : Int) = (n : Int) := by
    rw [IntKind.wrap_i64]
    omega
  clear hpu hn
  go_enter Tryz.func122, Tryz.ntmps122
  go_wp2_with fail
  refine (HP.out w).mono ?_
  rintro e w1 ⟨rfl, hb1⟩
  go_wp2_with fail
  go_ret2
  exact ret_mk hb1
set_option maxRecDepth 100000 in
set_option maxHeartbeats 1000000 in
theorem c84 (b n : Nat) (s : ByteArray) (w : World) (hn : n ≤ 99999999999) (h : UT b n s) :
    Calls Tryz.prog 84 #[.string s, .int .i64 b, .int .i64 64] w (Ret w (.tuple #[.int .i64 n, .nilIface])) := by
  have H := Lib.hid (c122 b n s w hn h)
  clear h
  go_enter Tryz.func84, Tryz.ntmps84
  go_wp2_with fail
  refine H.out.mono ?_
  rintro e w1 ⟨rfl, hb1⟩
  go_wp2_with fail
  go_ret2
  exact ret_mk hb1
end Go.Proofs.YtkhgaenffnoimaaGreatDoor
