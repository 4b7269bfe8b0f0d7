/- readFloat of a whole number. -/
import Derived.Test.YtkhgaenffnoimaaGreatDoorKB
import Derived.Test.YtkhgaenffnoimaaGreatDoorK2
import Derived.WalkMore
set_option linter.unusedSimpArgs false
set_option linter.unusedVariables false
namespace Go.Proofs.YtkhgaenffnoimaaGreatDoor
open Go.RowKit
attribute [local go_sem] run_store_float
set_option maxRecDepth 100000 in
set_option maxHeartbeats 2000000 in
/-- readFloat of a whole number other than 0. -/
theorem c198p (s : ByteArray) (n : Nat) (ds : List Nat) (w : World) (h0 : n ≠ 0) (hn : n ≤ 9999) (h : DT s 0 n ds) :
    Calls Tryz.prog 198 #[.string s] w (fun e w' => e = .returned (.tuple #[.int .u64 n, .int .i64 0, .bool false, .bool false, .bool false, .int .i64 ((ds.length : Int)), .bool true]) ∧ w' = w) := by
  obtain ⟨hsz, hpos, hfew, hat, hdig, hval, hhead⟩ := h
  obtain ⟨d0, r, hds, hd0⟩ := hhead h0
  have hd09 : d0 < 10 := hdig d0 (by rw [hds]; simp)
  have hlt0 : 0 + 0 < s.size := by omega
  have hc0 : (s[0 + 0]'hlt0).toNat = 48 + d0 := hat 0 d0 (by rw [hds]; rfl) hlt0
  have hc1 : (s[0]'hlt0).toNat = 48 + d0 := hc0
  clear hc0
  have HS : Hid (∀ q, (hq : q < ds.length) → ∃ d : Nat, d < 10 ∧ (q = 0 → d = d0) ∧ (∀ h, (s[q]'h).toNat = 48 + d) ∧ val10 (ds.take (q + 1)) = val10 (ds.take q) * 10 + d ∧ val10 (ds.take (q + 1)) ≤ 9999) := Lib.hid fun q hq => by
    refine ⟨ds[q], hdig _ (List.getElem_mem hq), ?_, fun h => ?_, val10_take ds q _ (List.getElem?_eq_getElem hq), ?_⟩
    · intro e
      subst e
      simp [hds]
    · have e := hat q _ (List.getElem?_eq_getElem hq) (by omega)
      rw [← e]
      congr 2
      omega
    · have := val10_mono ds (ds.length - (q + 1)) (q + 1) (by omega)
      omega
  have HV : Hid (val10 (ds.take ds.length) = n) := Lib.hid (by rw [List.take_length]; exact hval)
  obtain ⟨D, hD⟩ : ∃ D, D = ds.length := ⟨_, rfl⟩
  rw [← hD] at HS HV hsz hpos hfew ⊢
  clear hat hdig hval hhead hds hD
  have hd48 : ((48 : Int) + (d0 : Int) == 48) = false := by
    have : ¬ (48 : Int) + (d0 : Int) = 48 := by omega
    simpa using this
  have hd43 : ((48 : Int) + (d0 : Int) == 43) = false := by
    have : ¬ (48 : Int) + (d0 : Int) = 43 := by omega
    simpa using this
  have hd45 : ((48 : Int) + (d0 : Int) == 45) = false := by
    have : ¬ (48 : Int) + (d0 : Int) = 45 := by omega
    simpa using this
  have hd95 : ((48 : Int) + (d0 : Int) == 95) = false := by
    have : ¬ (48 : Int) + (d0 : Int) = 95 := by omega
    simpa using this
  have hd46 : ((48 : Int) + (d0 : Int) == 46) = false := by
    have : ¬ (48 : Int) + (d0 : Int) = 46 := by omega
    simpa using this
  have hsz' : s.size = D := by omega
  clear hsz
  go_enter Tryz.func198, Tryz.ntmps198
  go_wp2_with fail
  go_step3
  go_wp2_with fail
  all_goals (try go_step3)
  all_goals go_wp2_with fail
  all_goals
    go_loopw [2, 5, 7, 9, 13, 14, 15, 16, 17] (fun v2 v5 v7 v9 v13 v14 v15 v16 v17 wr => wr = w ∧ v5 = .bool false ∧ v9 = .bool false ∧ v13 = .bool false ∧ v17 = .int .i64 0 ∧ ∃ q : Nat, q ≤ D ∧ v2 = .int .u64 (val10 (ds.take q) : Nat) ∧ v7 = .int .i64 ((q : Int)) ∧ v14 = .bool (decide (0 < q)) ∧ v15 = .int .i64 q ∧ v16 = .int .i64 q) (fun _ _ _ _ _ _ i _ _ _ => D - (intOf i).toNat)
    case atStart => exact ⟨rfl, rfl, rfl, rfl, rfl, 0, Nat.zero_le _, rfl, rfl, rfl, rfl, rfl⟩
    case round =>
      obtain ⟨rfl, rfl, rfl, rfl, rfl, q, hq, rfl, rfl, rfl, rfl, rfl⟩ := hrel
      by_cases hlt : q < D
      · obtain ⟨d, hd10, hdz, hds, hvt, hv2⟩ := HS.out q hlt
        have hls : q < s.size := by omega
        have hc := hds hls
        clear hds
        obtain ⟨x, hx⟩ : ∃ x, x = val10 (ds.take (q + 1)) := ⟨_, rfl⟩
        rw [← hx] at hvt hv2
        have HX := Lib.hid hx
        by_cases h0 : q = 0
        · have hdn := hdz h0
          subst h0
          subst hdn
          clear hdz hx
          have hv0 : val10 (ds.take 0) = 0 := rfl
          rw [hv0] at hvt ⊢
          have w5 : IntKind.u8.wrap ((48 : Int) + (d : Int) - 48) = (d : Int) := by rw [IntKind.wrap_u8]; omega
          have w6 : IntKind.u64.wrap (d : Int) = (d : Int) := by rw [IntKind.wrap_u64]; omega
          go_wp2_with fail
          go_roundw
          case rel => exact ⟨by first | rfl | trivial, rfl, rfl, rfl, rfl, 1, by omega, by rw [← HX.out, hvt]; first | rfl | simp, by first | rfl | go_num, rfl, rfl, rfl⟩
          case measure => simp [intOf]; omega
        · generalize val10 (ds.take q) = v at hvt ⊢
          clear hx hdz
          have w3 : IntKind.u64.wrap ((v : Int) * 10) = ((v * 10 : Nat) : Int) := by rw [IntKind.wrap_u64]; omega
          have w4 : IntKind.u64.wrap (((v * 10 : Nat) : Int) + (d : Int)) = (x : Int) := by rw [IntKind.wrap_u64]; omega
          have h95 : ((48 : Int) + (d : Int) == 95) = false := by
            have : ¬ (48 : Int) + (d : Int) = 95 := by omega
            simpa using this
          have h46 : ((48 : Int) + (d : Int) == 46) = false := by
            have : ¬ (48 : Int) + (d : Int) = 46 := by omega
            simpa using this
          have w5 : IntKind.u8.wrap ((48 : Int) + (d : Int) - 48) = (d : Int) := by rw [IntKind.wrap_u8]; omega
          have w6 : IntKind.u64.wrap (d : Int) = (d : Int) := by rw [IntKind.wrap_u64]; omega
          have h2 : ((q : Int) == 0) = false := by
            have : ¬ (q : Int) = 0 := by omega
            simpa using this
          by_cases hdd : d = 0
          · have hc48 : (s[q]'hls).toNat = 48 := by omega
            have hxv : x = v * 10 := by omega
            subst hdd
            clear hc h95 h46 w4 w5 w6 hvt
            go_wp2_with fail
            go_roundw
            case rel => exact ⟨by first | rfl | trivial, rfl, rfl, rfl, rfl, q + 1, by omega, by rw [← HX.out, hxv]; first | rfl | simp, by first | rfl | go_num, by simp, by go_num, by go_num⟩
            case measure => simp [intOf]; omega
          · have h48 : ((48 : Int) + (d : Int) == 48) = false := by
              have : ¬ (48 : Int) + (d : Int) = 48 := by omega
              simpa using this
            go_wp2_with fail
            go_roundw
            case rel => exact ⟨by first | rfl | trivial, rfl, rfl, rfl, rfl, q + 1, by omega, by rw [← HX.out, hvt]; first | rfl | simp, by first | rfl | go_num, by simp, by go_num, by go_num⟩
            case measure => simp [intOf]; omega
      · have hqn : D = q := by omega
        subst hqn
        rw [HV.out]
        have hDp : decide (0 < D) = true := by simpa using hpos
        have hn0 : ((n : Int) == 0) = false := by
          have : ¬ (n : Int) = 0 := by omega
          simpa using this
        go_wp2_with fail
        rw [Exit.noGoto_ret]
        (refine bodyPost_ret (v := .tuple #[.int .u64 n, .int .i64 0, .bool false, .bool false, .bool false, .int .i64 ((D : Int)), .bool true]) ?_ rfl ?_; (focus (first | (simp [results, Tryz.results198, go_sem, hc1, hz1]; done) | (simp [results, Tryz.results198, go_sem]; done) | (simp [results, Tryz.results198, go_sem, *]; done))); exact ⟨rfl, rfl⟩)
set_option maxRecDepth 100000 in
set_option maxHeartbeats 2000000 in
/-- readFloat of a whole number other than 0 below 0. -/
theorem c198n (s : ByteArray) (n : Nat) (ds : List Nat) (w : World) (h0 : n ≠ 0) (hn : n ≤ 9999) (h : DT s 1 n ds) (hm : ∀ h, (s[0]'h).toNat = 45) :
    Calls Tryz.prog 198 #[.string s] w (fun e w' => e = .returned (.tuple #[.int .u64 n, .int .i64 0, .bool true, .bool false, .bool false, .int .i64 ((ds.length : Int) + 1), .bool true]) ∧ w' = w) := by
  obtain ⟨hsz, hpos, hfew, hat, hdig, hval, hhead⟩ := h
  obtain ⟨d0, r, hds, hd0⟩ := hhead h0
  have hd09 : d0 < 10 := hdig d0 (by rw [hds]; simp)
  have hlt0 : 1 + 0 < s.size := by omega
  have hc0 : (s[1 + 0]'hlt0).toNat = 48 + d0 := hat 0 d0 (by rw [hds]; rfl) hlt0
  have hltm : 0 < s.size := by omega
  have hcm := hm hltm
  have hc1 : (s[1]'(by omega)).toNat = 48 + d0 := hc0
  clear hm
  clear hc0
  have HS : Hid (∀ q, (hq : q < ds.length) → ∃ d : Nat, d < 10 ∧ (q = 0 → d = d0) ∧ (∀ h, (s[q + 1]'h).toNat = 48 + d) ∧ val10 (ds.take (q + 1)) = val10 (ds.take q) * 10 + d ∧ val10 (ds.take (q + 1)) ≤ 9999) := Lib.hid fun q hq => by
    refine ⟨ds[q], hdig _ (List.getElem_mem hq), ?_, fun h => ?_, val10_take ds q _ (List.getElem?_eq_getElem hq), ?_⟩
    · intro e
      subst e
      simp [hds]
    · have e := hat q _ (List.getElem?_eq_getElem hq) (by omega)
      rw [← e]
      congr 2
      omega
    · have := val10_mono ds (ds.length - (q + 1)) (q + 1) (by omega)
      omega
  have HV : Hid (val10 (ds.take ds.length) = n) := Lib.hid (by rw [List.take_length]; exact hval)
  obtain ⟨D, hD⟩ : ∃ D, D = ds.length := ⟨_, rfl⟩
  rw [← hD] at HS HV hsz hpos hfew ⊢
  clear hat hdig hval hhead hds hD
  have hd48 : ((48 : Int) + (d0 : Int) == 48) = false := by
    have : ¬ (48 : Int) + (d0 : Int) = 48 := by omega
    simpa using this
  have hd43 : ((48 : Int) + (d0 : Int) == 43) = false := by
    have : ¬ (48 : Int) + (d0 : Int) = 43 := by omega
    simpa using this
  have hd45 : ((48 : Int) + (d0 : Int) == 45) = false := by
    have : ¬ (48 : Int) + (d0 : Int) = 45 := by omega
    simpa using this
  have hd95 : ((48 : Int) + (d0 : Int) == 95) = false := by
    have : ¬ (48 : Int) + (d0 : Int) = 95 := by omega
    simpa using this
  have hd46 : ((48 : Int) + (d0 : Int) == 46) = false := by
    have : ¬ (48 : Int) + (d0 : Int) = 46 := by omega
    simpa using this
  have hsz' : s.size = D + 1 := by omega
  clear hsz
  go_enter Tryz.func198, Tryz.ntmps198
  go_wp2_with fail
  go_step3
  go_wp2_with fail
  all_goals (try go_step3)
  all_goals go_wp2_with fail
  all_goals
    go_loopw [2, 5, 7, 9, 13, 14, 15, 16, 17] (fun v2 v5 v7 v9 v13 v14 v15 v16 v17 wr => wr = w ∧ v5 = .bool false ∧ v9 = .bool false ∧ v13 = .bool false ∧ v17 = .int .i64 0 ∧ ∃ q : Nat, q ≤ D ∧ v2 = .int .u64 (val10 (ds.take q) : Nat) ∧ v7 = .int .i64 ((q : Int) + 1) ∧ v14 = .bool (decide (0 < q)) ∧ v15 = .int .i64 q ∧ v16 = .int .i64 q) (fun _ _ _ _ _ _ i _ _ _ => D - (intOf i).toNat)
    case atStart => exact ⟨rfl, rfl, rfl, rfl, rfl, 0, Nat.zero_le _, rfl, rfl, rfl, rfl, rfl⟩
    case round =>
      obtain ⟨rfl, rfl, rfl, rfl, rfl, q, hq, rfl, rfl, rfl, rfl, rfl⟩ := hrel
      by_cases hlt : q < D
      · obtain ⟨d, hd10, hdz, hds, hvt, hv2⟩ := HS.out q hlt
        have hls : q + 1 < s.size := by omega
        have hc := hds hls
        clear hds
        obtain ⟨x, hx⟩ : ∃ x, x = val10 (ds.take (q + 1)) := ⟨_, rfl⟩
        rw [← hx] at hvt hv2
        have HX := Lib.hid hx
        by_cases h0 : q = 0
        · have hdn := hdz h0
          subst h0
          subst hdn
          clear hdz hx
          have hv0 : val10 (ds.take 0) = 0 := rfl
          rw [hv0] at hvt ⊢
          have w5 : IntKind.u8.wrap ((48 : Int) + (d : Int) - 48) = (d : Int) := by rw [IntKind.wrap_u8]; omega
          have w6 : IntKind.u64.wrap (d : Int) = (d : Int) := by rw [IntKind.wrap_u64]; omega
          go_wp2_with fail
          go_roundw
          case rel => exact ⟨by first | rfl | trivial, rfl, rfl, rfl, rfl, 1, by omega, by rw [← HX.out, hvt]; first | rfl | simp, by first | rfl | go_num, rfl, rfl, rfl⟩
          case measure => simp [intOf]; omega
        · generalize val10 (ds.take q) = v at hvt ⊢
          clear hx hdz
          have w3 : IntKind.u64.wrap ((v : Int) * 10) = ((v * 10 : Nat) : Int) := by rw [IntKind.wrap_u64]; omega
          have w4 : IntKind.u64.wrap (((v * 10 : Nat) : Int) + (d : Int)) = (x : Int) := by rw [IntKind.wrap_u64]; omega
          have h95 : ((48 : Int) + (d : Int) == 95) = false := by
            have : ¬ (48 : Int) + (d : Int) = 95 := by omega
            simpa using this
          have h46 : ((48 : Int) + (d : Int) == 46) = false := by
            have : ¬ (48 : Int) + (d : Int) = 46 := by omega
            simpa using this
          have w5 : IntKind.u8.wrap ((48 : Int) + (d : Int) - 48) = (d : Int) := by rw [IntKind.wrap_u8]; omega
          have w6 : IntKind.u64.wrap (d : Int) = (d : Int) := by rw [IntKind.wrap_u64]; omega
          have h2 : ((q : Int) == 0) = false := by
            have : ¬ (q : Int) = 0 := by omega
            simpa using this
          by_cases hdd : d = 0
          · have hc48 : (s[q + 1]'hls).toNat = 48 := by omega
            have hxv : x = v * 10 := by omega
            subst hdd
            clear hc h95 h46 w4 w5 w6 hvt
            go_wp2_with fail
            go_roundw
            case rel => exact ⟨by first | rfl | trivial, rfl, rfl, rfl, rfl, q + 1, by omega, by rw [← HX.out, hxv]; first | rfl | simp, by first | rfl | go_num, by simp, by go_num, by go_num⟩
            case measure => simp [intOf]; omega
          · have h48 : ((48 : Int) + (d : Int) == 48) = false := by
              have : ¬ (48 : Int) + (d : Int) = 48 := by omega
              simpa using this
            go_wp2_with fail
            go_roundw
            case rel => exact ⟨by first | rfl | trivial, rfl, rfl, rfl, rfl, q + 1, by omega, by rw [← HX.out, hvt]; first | rfl | simp, by first | rfl | go_num, by simp, by go_num, by go_num⟩
            case measure => simp [intOf]; omega
      · have hqn : D = q := by omega
        subst hqn
        rw [HV.out]
        have hDp : decide (0 < D) = true := by simpa using hpos
        have hn0 : ((n : Int) == 0) = false := by
          have : ¬ (n : Int) = 0 := by omega
          simpa using this
        go_wp2_with fail
        rw [Exit.noGoto_ret]
        (refine bodyPost_ret (v := .tuple #[.int .u64 n, .int .i64 0, .bool true, .bool false, .bool false, .int .i64 ((D : Int) + 1), .bool true]) ?_ rfl ?_; (focus (first | (simp [results, Tryz.results198, go_sem, hc1, hz1]; done) | (simp [results, Tryz.results198, go_sem]; done) | (simp [results, Tryz.results198, go_sem, *]; done))); exact ⟨rfl, rfl⟩)
end Go.Proofs.YtkhgaenffnoimaaGreatDoor
