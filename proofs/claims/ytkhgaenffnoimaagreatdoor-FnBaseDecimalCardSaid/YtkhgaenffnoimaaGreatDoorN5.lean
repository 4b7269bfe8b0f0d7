/- ParseUint of a numeral in great letters. -/
import Derived.Test.YtkhgaenffnoimaaGreatDoorN4
set_option linter.unusedSimpArgs false
set_option linter.unusedVariables false
namespace Go.Proofs.YtkhgaenffnoimaaGreatDoor
open Go.RowKit FL
attribute [local go_sem] run_store_float as64
theorem or32_fin : ∀ c : Fin 26, bits BinOp.or IntKind.u8 (((c.val + 65 : Nat)) : Int) 32 = ((c.val + 97 : Nat) : Int) := by decide +kernel
set_option maxRecDepth 100000 in
theorem c174 (c : Nat) (w : World) (h0 : 65 ≤ c) (h1 : c ≤ 90) : Calls Tryz.prog 174 #[.int .u8 c] w (fun e w' => e = .returned (.int .u8 ((c : Int) + 32)) ∧ w' = w) := by
  have h : bits BinOp.or IntKind.u8 (c : Int) 32 = (c : Int) + 32 := by
    have := or32_fin ⟨c - 65, by omega⟩
    simp only at this
    rw [show c - 65 + 65 = c by omega, show c - 65 + 97 = c + 32 by omega] at this
    rw [this]
    omega
  go_enter Tryz.func174, Tryz.ntmps174
  go_wp2_with fail
  go_ret
  exact ⟨rfl, rfl⟩
/-- The number that digits in a base are. -/
def val (b : Nat) (ds : List Nat) : Nat := ds.foldl (fun a d => a * b + d) 0
theorem val_snoc (b : Nat) (ds : List Nat) (d : Nat) : val b (ds ++ [d]) = val b ds * b + d := by unfold val; rw [List.foldl_append]; rfl
theorem val_digs (b : Nat) (hb : 2 ≤ b) : ∀ (f n : Nat), n < b ^ f → 0 < f → val b (digs b f n) = n
  | 0, n, _, h => by omega
  | f + 1, n, h, _ => by
    rw [digs]
    split
    · simp [val]
    · rename_i hn
      have hf : 0 < f := by
        rcases Nat.eq_zero_or_pos f with h' | h'
        · subst h'
          simp at h
          omega
        · exact h'
      rw [val_snoc, val_digs b hb f (n / b) (by rw [Nat.pow_succ] at h; exact (Nat.div_lt_iff_lt_mul (by omega)).2 h) hf]
      rw [Nat.mul_comm]
      exact Nat.div_add_mod n b
theorem val_take (b : Nat) (hb : 2 ≤ b) (ds : List Nat) (q d : Nat) (h : ds[q]? = some d) : val b (ds.take (q + 1)) = val b (ds.take q) * b + d := by
  rw [take_succ_of h, val_snoc]
theorem val_mono (b : Nat) (hb : 2 ≤ b) (ds : List Nat) : ∀ k q, q + k = ds.length → val b (ds.take q) ≤ val b ds
  | 0, q, h => by rw [List.take_of_length_le (by omega)]; exact Nat.le_refl _
  | k + 1, q, h => by
    have h1 := val_mono b hb ds k (q + 1) (by omega)
    rw [val_take b hb ds q _ (List.getElem?_eq_getElem (by omega))] at h1
    have h2 : val b (ds.take q) * 1 ≤ val b (ds.take q) * b := Nat.mul_le_mul_left _ (by omega)
    omega
theorem uch_lt (d : Nat) (h : d < 36) : uch d < 128 := by unfold uch; split <;> omega
set_option maxRecDepth 100000 in
set_option maxHeartbeats 2000000 in
theorem c152 (b : Nat) (ds : List Nat) (s : ByteArray) (w : World) (h0 : 2 ≤ b) (h1 : b ≤ 36) (hs : s.data.toList = ds.map fun d => UInt8.ofNat (uch d)) (hl0 : 0 < ds.length) (hl : ds.length ≤ 40) (hd : ∀ d, d ∈ ds → d < b) (hv : val b ds ≤ 99999999999) :
    Calls Tryz.prog 152 #[.string s, .int .i64 b, .int .i64 64] w (Ret w (.tuple #[.int .u64 (val b ds : Nat), .nilIface])) := by
  have hsz : s.size = ds.length := by
    have := congrArg List.length hs
    rw [List.length_map] at this
    exact this
  have hne : s.toList.isEmpty = false := by
    rw [ByteArray.toList_eq, hs]
    cases ds with
    | nil => simp at hl0
    | cons d ds => rfl
  have hcv := fun W => run_bytes_of_string (P := Tryz.prog) W
  have hle : s.size ≤ (bytesRow s (grownCap w s.size 0 5)).size := by unfold bytesRow; simp
  have hB0 := (BBlk.of_bytes w s (grownCap w s.size 0 5) 5 _ ((bytesRow s (grownCap w s.size 0 5)).size + 1) hle).drew
  have HB : Hid (∀ q d, ds[q]? = some d → (w.alloc (.cells (bytesRow s (grownCap w s.size 0 5)) 5 ((bytesRow s (grownCap w s.size 0 5)).size, (bytesRow s (grownCap w s.size 0 5)).size + 1))).drew.cell? ⟨w.heap.size, q, none⟩ = some (.int .u8 ((uch d : Nat) : Int))) := Lib.hid fun q d hq => by
    have hlt := (List.getElem?_eq_some_iff.1 hq).1
    have hdb := hd d (List.mem_of_getElem? hq)
    rw [hB0.cell q (by rw [hs]; simpa using hlt), hs]
    simp only [List.getD, List.getElem?_map, hq, Option.map_some, Option.getD_some]
    have := uch_lt d (by omega)
    rw [UInt8.toNat_ofNat']
    congr 2
    omega
  have HV : Hid (∀ q, q ≤ ds.length → val b (ds.take q) ≤ 99999999999) := Lib.hid fun q hq => Nat.le_trans (val_mono b h0 ds (ds.length - q) q (by omega)) hv
  have HD := Lib.hid hd
  obtain ⟨n, hn⟩ : ∃ n, n = ds.length := ⟨_, rfl⟩
  have HN := Lib.hid hn
  rw [← hn] at hsz hl0 hl
  have hk0 : ∃ K : Nat, K = 18446744073709551615 / b := ⟨_, rfl⟩
  obtain ⟨K0, hK0⟩ := hk0
  have hK1 : 512409557603043100 ≤ K0 ∧ K0 ≤ 9223372036854775807 := by
    rw [hK0]
    constructor
    · exact (Nat.le_div_iff_mul_le (by omega)).2 (by omega)
    · exact Nat.le_trans (Nat.div_le_div_left h0 (by decide)) (by decide)
  have k1 : IntKind.u64.wrap (18446744073709551615 / (b : Int)) = (K0 : Int) := by
    rw [IntKind.wrap_u64]
    have : (18446744073709551615 : Int) / (b : Int) = (K0 : Int) := by
      rw [hK0, Int.natCast_ediv]
      rfl
    omega
  have k2 : IntKind.u64.wrap (18446744073709551615 / (b : Int) + 1) = ((K0 + 1 : Nat) : Int) := by
    rw [IntKind.wrap_u64]
    have : (18446744073709551615 : Int) / (b : Int) = (K0 : Int) := by
      rw [hK0, Int.natCast_ediv]
      rfl
    omega
  have kb : IntKind.u64.wrap (b : Int) = (b : Int) := wrap_u64_nat b (by omega)
  have k8 : IntKind.u8.wrap (b : Int) = (b : Int) := by
    rw [IntKind.wrap_u8]
    omega
  rw [hsz] at HB
  have kM : IntKind.u64.wrap (IntKind.u64.wrap 18446744073709551616 - 1) = 18446744073709551615 := by decide
  clear hs hd hn hv hle hB0 hK0
  have hb36 : decide ((b : Int) ≤ 36) = true := by simpa using (show (b : Int) ≤ 36 by omega)
  have hbne : ((b : Int) == 0) = false := by
    have : ¬ (b : Int) = 0 := by omega
    simpa using this
  go_enter Tryz.func152, Tryz.ntmps152
  by_cases h10 : ((b : Int) == 10) = true
  · go_wp2_with fail
    clear h10 hcv
    obtain ⟨K, hK, hK2⟩ : ∃ K : Nat, (1844674407370955162 : Int) = (K : Int) ∧ 512409557603043100 ≤ K := ⟨1844674407370955162, rfl, by decide⟩
    rw [hK]
    clear hK
    have hbW : Below w.heap.size w (w.alloc (.cells (bytesRow s (grownCap w n 0 5)) 5 ((bytesRow s (grownCap w n 0 5)).size, (bytesRow s (grownCap w n 0 5)).size + 1))).drew := Below.drew (by repeat (first | (with_reducible exact Below.refl _ _) | (with_reducible assumption) | ((with_reducible refine Below.alloc ?_ ?_ _); rotate_left; focus (first | exact Nat.le_refl _ | omega | (simp; done) | (simp; omega))) | ((with_reducible refine Below.setCell ?_ ?_ _); rotate_left; focus (first | exact Nat.le_refl _ | omega | (simp; done) | (simp; omega))) | (with_reducible refine Below.drew ?_) | (with_reducible refine below_drewN ?_ _) | ((with_reducible refine below_via (by assumption) ?_ ?_); focus (first | exact Nat.le_refl _ | omega | (simp; done) | (simp; omega)))))
    have hsW : w.heap.size < (w.alloc (.cells (bytesRow s (grownCap w n 0 5)) 5 ((bytesRow s (grownCap w n 0 5)).size, (bytesRow s (grownCap w n 0 5)).size + 1))).drew.heap.size := by simp
    have HB1 := HB
    generalize (w.alloc (.cells (bytesRow s (grownCap w n 0 5)) 5 ((bytesRow s (grownCap w n 0 5)).size, (bytesRow s (grownCap w n 0 5)).size + 1))).drew = W1 at hbW hsW HB1 ⊢
    go_loopw [12, 13, 101] (fun u v i wr => wr = W1 ∧ u = .bool false ∧ ∃ q : Nat, q ≤ n ∧ i = .int .i64 q ∧ v = .int .u64 (val b (ds.take q) : Nat)) (fun _ _ i _ => n - (intOf i).toNat)
    case atStart => exact ⟨rfl, rfl, 0, Nat.zero_le _, rfl, rfl⟩
    case round =>
      obtain ⟨rfl, rfl, q, hq, rfl, rfl⟩ := hrel
      by_cases hlt : q < n
      · obtain ⟨d, hdq⟩ : ∃ d, ds[q]? = some d := ⟨_, List.getElem?_eq_getElem (by rw [← HN.out]; exact hlt)⟩
        have hdb := HD.out d (List.mem_of_getElem? hdq)
        have hv1 := HV.out q (by rw [← HN.out]; omega)
        have hv2 := HV.out (q + 1) (by rw [← HN.out]; omega)
        have hvt := val_take b h0 ds q d hdq
        have e := HB1.out q d hdq
        have HVT : Hid (∀ x, x = val b (ds.take (q + 1)) → x = val b (ds.take (q + 1))) := Lib.hid fun _ h => h
        obtain ⟨v2, hv2e⟩ : ∃ x, x = val b (ds.take (q + 1)) := ⟨_, rfl⟩
        rw [← hv2e] at hvt hv2
        have HE := Lib.hid hv2e
        generalize val b (ds.take q) = v at hv1 hvt ⊢
        obtain ⟨m, hm⟩ : ∃ m, m = v * b := ⟨_, rfl⟩
        rw [← hm] at hvt
        have hmv : m ≤ v2 := by omega
        have hm9 : m ≤ 99999999999 := by omega
        have w3 : IntKind.u64.wrap ((v : Int) * (b : Int)) = (m : Int) := by
          rw [IntKind.wrap_u64]
          have : (v : Int) * (b : Int) = (m : Int) := by rw [hm, Int.natCast_mul]
          omega
        have w4 : IntKind.u64.wrap ((m : Int) + (d : Int)) = (v2 : Int) := by
          rw [IntKind.wrap_u64]
          omega
        have w5 : IntKind.u64.wrap (d : Int) = (d : Int) := wrap_u64_nat d (by omega)
        have hd36 : d < 36 := by omega
        clear hv2e hdq hm hvt
        by_cases h9 : d < 10
        · obtain ⟨c, hc⟩ : ∃ c, c = uch d := ⟨_, rfl⟩
          rw [← hc] at e
          have hc0 : 48 ≤ c ∧ c ≤ 57 := by
            rw [hc, uch, if_pos h9]
            omega
          have w6 : IntKind.u8.wrap ((c : Int) - 48) = (d : Int) := by
            rw [IntKind.wrap_u8, hc, uch, if_pos h9]
            omega
          have hc95 : ((c : Int) == 95) = false := by
            have : ¬ (c : Int) = 95 := by omega
            simpa using this
          clear hc
          go_wp2_with fail
          go_roundw
          case rel => exact ⟨by first | rfl | trivial, by first | rfl | trivial, q + 1, by omega, by go_num, by rw [← HE.out]⟩
          case measure => simp [intOf]; omega
        · obtain ⟨c, hc⟩ : ∃ c, c = uch d := ⟨_, rfl⟩
          rw [← hc] at e
          have hc0 : 65 ≤ c ∧ c ≤ 90 := by
            rw [hc, uch, if_neg h9]
            omega
          have w6 : IntKind.u8.wrap ((c : Int) + 32 - 97) = ((d - 10 : Nat) : Int) := by
            rw [IntKind.wrap_u8, hc, uch, if_neg h9]
            omega
          have w7 : IntKind.u8.wrap (((d - 10 : Nat) : Int) + 10) = (d : Int) := by
            rw [IntKind.wrap_u8]
            omega
          have hc95 : ((c : Int) == 95) = false := by
            have : ¬ (c : Int) = 95 := by
              have : c = 55 + d := by rw [hc, uch, if_neg h9]
              omega
            simpa using this
          clear hc
          go_wp2_with (go_at_call 174; refine (c174 c _ hc0.1 hc0.2).mono ?_; rintro e w1 ⟨rfl, rfl⟩)
          go_roundw
          case rel => exact ⟨by first | rfl | trivial, by first | rfl | trivial, q + 1, by omega, by go_num, by rw [← HE.out]⟩
          case measure => simp [intOf]; omega
      · have hqn : n = q := by omega
        subst hqn
        have htk : List.take n ds = ds := by rw [HN.out, List.take_length]
        rw [htk]
        go_wp2_with fail
        go_ret2
        exact ret_mk hbW
  · have h10' : ((b : Int) == 10) = false := by simpa using h10
    clear h10
    by_cases h16 : ((b : Int) == 16) = true
    · go_wp2_with fail
      clear h16 hcv
      obtain ⟨K, hK, hK2⟩ : ∃ K : Nat, (1152921504606846976 : Int) = (K : Int) ∧ 512409557603043100 ≤ K := ⟨1152921504606846976, rfl, by decide⟩
      rw [hK]
      clear hK
      have hbW : Below w.heap.size w (w.alloc (.cells (bytesRow s (grownCap w n 0 5)) 5 ((bytesRow s (grownCap w n 0 5)).size, (bytesRow s (grownCap w n 0 5)).size + 1))).drew := Below.drew (by repeat (first | (with_reducible exact Below.refl _ _) | (with_reducible assumption) | ((with_reducible refine Below.alloc ?_ ?_ _); rotate_left; focus (first | exact Nat.le_refl _ | omega | (simp; done) | (simp; omega))) | ((with_reducible refine Below.setCell ?_ ?_ _); rotate_left; focus (first | exact Nat.le_refl _ | omega | (simp; done) | (simp; omega))) | (with_reducible refine Below.drew ?_) | (with_reducible refine below_drewN ?_ _) | ((with_reducible refine below_via (by assumption) ?_ ?_); focus (first | exact Nat.le_refl _ | omega | (simp; done) | (simp; omega)))))
      have hsW : w.heap.size < (w.alloc (.cells (bytesRow s (grownCap w n 0 5)) 5 ((bytesRow s (grownCap w n 0 5)).size, (bytesRow s (grownCap w n 0 5)).size + 1))).drew.heap.size := by simp
      have HB1 := HB
      generalize (w.alloc (.cells (bytesRow s (grownCap w n 0 5)) 5 ((bytesRow s (grownCap w n 0 5)).size, (bytesRow s (grownCap w n 0 5)).size + 1))).drew = W1 at hbW hsW HB1 ⊢
      go_loopw [12, 13, 101] (fun u v i wr => wr = W1 ∧ u = .bool false ∧ ∃ q : Nat, q ≤ n ∧ i = .int .i64 q ∧ v = .int .u64 (val b (ds.take q) : Nat)) (fun _ _ i _ => n - (intOf i).toNat)
      case atStart => exact ⟨rfl, rfl, 0, Nat.zero_le _, rfl, rfl⟩
      case round =>
        obtain ⟨rfl, rfl, q, hq, rfl, rfl⟩ := hrel
        by_cases hlt : q < n
        · obtain ⟨d, hdq⟩ : ∃ d, ds[q]? = some d := ⟨_, List.getElem?_eq_getElem (by rw [← HN.out]; exact hlt)⟩
          have hdb := HD.out d (List.mem_of_getElem? hdq)
          have hv1 := HV.out q (by rw [← HN.out]; omega)
          have hv2 := HV.out (q + 1) (by rw [← HN.out]; omega)
          have hvt := val_take b h0 ds q d hdq
          have e := HB1.out q d hdq
          have HVT : Hid (∀ x, x = val b (ds.take (q + 1)) → x = val b (ds.take (q + 1))) := Lib.hid fun _ h => h
          obtain ⟨v2, hv2e⟩ : ∃ x, x = val b (ds.take (q + 1)) := ⟨_, rfl⟩
          rw [← hv2e] at hvt hv2
          have HE := Lib.hid hv2e
          generalize val b (ds.take q) = v at hv1 hvt ⊢
          obtain ⟨m, hm⟩ : ∃ m, m = v * b := ⟨_, rfl⟩
          rw [← hm] at hvt
          have hmv : m ≤ v2 := by omega
          have hm9 : m ≤ 99999999999 := by omega
          have w3 : IntKind.u64.wrap ((v : Int) * (b : Int)) = (m : Int) := by
            rw [IntKind.wrap_u64]
            have : (v : Int) * (b : Int) = (m : Int) := by rw [hm, Int.natCast_mul]
            omega
          have w4 : IntKind.u64.wrap ((m : Int) + (d : Int)) = (v2 : Int) := by
            rw [IntKind.wrap_u64]
            omega
          have w5 : IntKind.u64.wrap (d : Int) = (d : Int) := wrap_u64_nat d (by omega)
          have hd36 : d < 36 := by omega
          clear hv2e hdq hm hvt
          by_cases h9 : d < 10
          · obtain ⟨c, hc⟩ : ∃ c, c = uch d := ⟨_, rfl⟩
            rw [← hc] at e
            have hc0 : 48 ≤ c ∧ c ≤ 57 := by
              rw [hc, uch, if_pos h9]
              omega
            have w6 : IntKind.u8.wrap ((c : Int) - 48) = (d : Int) := by
              rw [IntKind.wrap_u8, hc, uch, if_pos h9]
              omega
            have hc95 : ((c : Int) == 95) = false := by
              have : ¬ (c : Int) = 95 := by omega
              simpa using this
            clear hc
            go_wp2_with fail
            go_roundw
            case rel => exact ⟨by first | rfl | trivial, by first | rfl | trivial, q + 1, by omega, by go_num, by rw [← HE.out]⟩
            case measure => simp [intOf]; omega
          · obtain ⟨c, hc⟩ : ∃ c, c = uch d := ⟨_, rfl⟩
            rw [← hc] at e
            have hc0 : 65 ≤ c ∧ c ≤ 90 := by
              rw [hc, uch, if_neg h9]
              omega
            have w6 : IntKind.u8.wrap ((c : Int) + 32 - 97) = ((d - 10 : Nat) : Int) := by
              rw [IntKind.wrap_u8, hc, uch, if_neg h9]
              omega
            have w7 : IntKind.u8.wrap (((d - 10 : Nat) : Int) + 10) = (d : Int) := by
              rw [IntKind.wrap_u8]
              omega
            have hc95 : ((c : Int) == 95) = false := by
              have : ¬ (c : Int) = 95 := by
                have : c = 55 + d := by rw [hc, uch, if_neg h9]
                omega
              simpa using this
            clear hc
            go_wp2_with (go_at_call 174; refine (c174 c _ hc0.1 hc0.2).mono ?_; rintro e w1 ⟨rfl, rfl⟩)
            go_roundw
            case rel => exact ⟨by first | rfl | trivial, by first | rfl | trivial, q + 1, by omega, by go_num, by rw [← HE.out]⟩
            case measure => simp [intOf]; omega
        · have hqn : n = q := by omega
          subst hqn
          have htk : List.take n ds = ds := by rw [HN.out, List.take_length]
          rw [htk]
          go_wp2_with fail
          go_ret2
          exact ret_mk hbW
    · have h16' : ((b : Int) == 16) = false := by simpa using h16
      clear h16
      go_wp2_with fail
      clear hcv
      have hbW : Below w.heap.size w (w.alloc (.cells (bytesRow s (grownCap w n 0 5)) 5 ((bytesRow s (grownCap w n 0 5)).size, (bytesRow s (grownCap w n 0 5)).size + 1))).drew := Below.drew (by repeat (first | (with_reducible exact Below.refl _ _) | (with_reducible assumption) | ((with_reducible refine Below.alloc ?_ ?_ _); rotate_left; focus (first | exact Nat.le_refl _ | omega | (simp; done) | (simp; omega))) | ((with_reducible refine Below.setCell ?_ ?_ _); rotate_left; focus (first | exact Nat.le_refl _ | omega | (simp; done) | (simp; omega))) | (with_reducible refine Below.drew ?_) | (with_reducible refine below_drewN ?_ _) | ((with_reducible refine below_via (by assumption) ?_ ?_); focus (first | exact Nat.le_refl _ | omega | (simp; done) | (simp; omega)))))
      have hsW : w.heap.size < (w.alloc (.cells (bytesRow s (grownCap w n 0 5)) 5 ((bytesRow s (grownCap w n 0 5)).size, (bytesRow s (grownCap w n 0 5)).size + 1))).drew.heap.size := by simp
      have HB1 := HB
      generalize (w.alloc (.cells (bytesRow s (grownCap w n 0 5)) 5 ((bytesRow s (grownCap w n 0 5)).size, (bytesRow s (grownCap w n 0 5)).size + 1))).drew = W1 at hbW hsW HB1 ⊢
      go_loopw [12, 13, 101] (fun u v i wr => wr = W1 ∧ u = .bool false ∧ ∃ q : Nat, q ≤ n ∧ i = .int .i64 q ∧ v = .int .u64 (val b (ds.take q) : Nat)) (fun _ _ i _ => n - (intOf i).toNat)
      case atStart => exact ⟨rfl, rfl, 0, Nat.zero_le _, rfl, rfl⟩
      case round =>
        obtain ⟨rfl, rfl, q, hq, rfl, rfl⟩ := hrel
        by_cases hlt : q < n
        · obtain ⟨d, hdq⟩ : ∃ d, ds[q]? = some d := ⟨_, List.getElem?_eq_getElem (by rw [← HN.out]; exact hlt)⟩
          have hdb := HD.out d (List.mem_of_getElem? hdq)
          have hv1 := HV.out q (by rw [← HN.out]; omega)
          have hv2 := HV.out (q + 1) (by rw [← HN.out]; omega)
          have hvt := val_take b h0 ds q d hdq
          have e := HB1.out q d hdq
          have HVT : Hid (∀ x, x = val b (ds.take (q + 1)) → x = val b (ds.take (q + 1))) := Lib.hid fun _ h => h
          obtain ⟨v2, hv2e⟩ : ∃ x, x = val b (ds.take (q + 1)) := ⟨_, rfl⟩
          rw [← hv2e] at hvt hv2
          have HE := Lib.hid hv2e
          generalize val b (ds.take q) = v at hv1 hvt ⊢
          obtain ⟨m, hm⟩ : ∃ m, m = v * b := ⟨_, rfl⟩
          rw [← hm] at hvt
          have hmv : m ≤ v2 := by omega
          have hm9 : m ≤ 99999999999 := by omega
          have w3 : IntKind.u64.wrap ((v : Int) * (b : Int)) = (m : Int) := by
            rw [IntKind.wrap_u64]
            have : (v : Int) * (b : Int) = (m : Int) := by rw [hm, Int.natCast_mul]
            omega
          have w4 : IntKind.u64.wrap ((m : Int) + (d : Int)) = (v2 : Int) := by
            rw [IntKind.wrap_u64]
            omega
          have w5 : IntKind.u64.wrap (d : Int) = (d : Int) := wrap_u64_nat d (by omega)
          have hd36 : d < 36 := by omega
          clear hv2e hdq hm hvt
          by_cases h9 : d < 10
          · obtain ⟨c, hc⟩ : ∃ c, c = uch d := ⟨_, rfl⟩
            rw [← hc] at e
            have hc0 : 48 ≤ c ∧ c ≤ 57 := by
              rw [hc, uch, if_pos h9]
              omega
            have w6 : IntKind.u8.wrap ((c : Int) - 48) = (d : Int) := by
              rw [IntKind.wrap_u8, hc, uch, if_pos h9]
              omega
            have hc95 : ((c : Int) == 95) = false := by
              have : ¬ (c : Int) = 95 := by omega
              simpa using this
            clear hc
            go_wp2_with fail
            go_roundw
            case rel => exact ⟨by first | rfl | trivial, by first | rfl | trivial, q + 1, by omega, by go_num, by rw [← HE.out]⟩
            case measure => simp [intOf]; omega
          · obtain ⟨c, hc⟩ : ∃ c, c = uch d := ⟨_, rfl⟩
            rw [← hc] at e
            have hc0 : 65 ≤ c ∧ c ≤ 90 := by
              rw [hc, uch, if_neg h9]
              omega
            have w6 : IntKind.u8.wrap ((c : Int) + 32 - 97) = ((d - 10 : Nat) : Int) := by
              rw [IntKind.wrap_u8, hc, uch, if_neg h9]
              omega
            have w7 : IntKind.u8.wrap (((d - 10 : Nat) : Int) + 10) = (d : Int) := by
              rw [IntKind.wrap_u8]
              omega
            have hc95 : ((c : Int) == 95) = false := by
              have : ¬ (c : Int) = 95 := by
                have : c = 55 + d := by rw [hc, uch, if_neg h9]
                omega
              simpa using this
            clear hc
            go_wp2_with (go_at_call 174; refine (c174 c _ hc0.1 hc0.2).mono ?_; rintro e w1 ⟨rfl, rfl⟩)
            go_roundw
            case rel => exact ⟨by first | rfl | trivial, by first | rfl | trivial, q + 1, by omega, by go_num, by rw [← HE.out]⟩
            case measure => simp [intOf]; omega
        · have hqn : n = q := by omega
          subst hqn
          have htk : List.take n ds = ds := by rw [HN.out, List.take_length]
          rw [htk]
          go_wp2_with fail
          go_ret2
          exact ret_mk hbW
end Go.Proofs.YtkhgaenffnoimaaGreatDoor
