/- zzCriterion at each of the six operators (printed by gencrit.py). -/
import Derived.Test.YtkhgaenffnoimaaGreatDoorKG
set_option linter.unusedSimpArgs false
set_option linter.unusedVariables false
namespace Go.Proofs.YtkhgaenffnoimaaGreatDoor
open Go.RowKit FL
attribute [local go_sem] run_store_float
theorem ct_bytes {s num : ByteArray} {o : List UInt8} (h : CT s o num) (hn : NumT num) (ho : ∀ c, c ∈ o → c ≠ 10) (b : UInt8) (hb : o[0]? = some b) :
    ∃ h0 : 0 < s.size, (s[0]'h0).toNat = b.toNat ∧ Hid (∀ i (hi : i < s.size), ∃ x : Nat, (s[i]'hi).toNat = x ∧ x ≠ 10) := by
  have h1 := (List.getElem?_eq_some_iff.1 hb).1
  have h0 : 0 < s.size := by rw [h.size]; omega
  refine ⟨h0, ?_, Lib.hid fun i hi => ⟨_, rfl, fun h10 => ?_⟩⟩
  · have h2 : s.data.toList[0]? = some b := by rw [h.eq, List.getElem?_append_left h1]; exact hb
    have h3 := (List.getElem?_eq_some_iff.1 h2).2
    rw [← h3]
    rfl
  · have h2 : s[i]'hi ∈ s.data.toList := by
      have : s[i]'hi = s.data.toList[i]'(by simpa using hi) := rfl
      rw [this]
      exact List.getElem_mem _
    rw [h.eq] at h2
    have h3 : s[i]'hi = 10 := UInt8.toNat_inj.1 h10
    rw [h3] at h2
    rcases List.mem_append.1 h2 with h4 | h4
    · exact absurd rfl (ho _ h4)
    · exact absurd rfl (hn.all _ h4).1
set_option maxRecDepth 100000 in
set_option maxHeartbeats 2000000 in
theorem c99_eq (s num : ByteArray) (w : World) (h : CT s [61] num) (hn : NumT num) (hsz : num.size ≤ 100) :
    Calls Tryz.prog 99 #[.string s] w (Ret w (.tuple #[.int .u8 11, .string num, .bool true])) := by
  have hP := hasP_of h
  obtain ⟨h0, hb0', HB⟩ := ct_bytes h hn (by decide) 61 rfl
  have hb0 : (s[0]'h0).toNat = 61 := hb0'
  clear hb0'
  obtain ⟨heq, hext, hsize⟩ := h
  obtain ⟨c, r, hcr, hc1, hc2⟩ := hn.head
  have e61 : ((61 : UInt8) == c) = false := beq_eq_false_iff_ne.2 (Ne.symm hc1)
  have e62 : ((62 : UInt8) == c) = false := beq_eq_false_iff_ne.2 (Ne.symm hc2)
  have p0 : hasP s ⟨#[61]⟩ = true := by rw [hP, hcr]; rfl
  have hle : s.size ≤ 102 := by rw [hsize]; simp; omega
  have hL : 1 ≤ s.size := by rw [hsize]; simp
  have hext' : s.extract 1 s.size = num := hext
  clear hP heq hsize hcr hc1 hc2 hn hsz hext e61 e62
  obtain ⟨n, hsn⟩ : ∃ n, s.size = n := ⟨_, rfl⟩
  rw [hsn] at hext'
  go_enter Tryz.func99, Tryz.ntmps99
  go_wp2_with fail
  generalize hW : World.alloc w _ = W1
  have hbW : Below w.heap.size w W1 := by rw [← hW]; exact (by repeat (first | (with_reducible exact Below.refl _ _) | (with_reducible assumption) | ((with_reducible refine Below.alloc ?_ ?_ _); rotate_left; focus (first | exact Nat.le_refl _ | omega | (simp; done) | (simp; omega))) | ((with_reducible refine Below.setCell ?_ ?_ _); rotate_left; focus (first | exact Nat.le_refl _ | omega | (simp; done) | (simp; omega))) | (with_reducible refine Below.drew ?_) | (with_reducible refine below_drewN ?_ _) | ((with_reducible refine below_via (by assumption) ?_ ?_); focus (first | exact Nat.le_refl _ | omega | (simp; done) | (simp; omega)))))
  have hcW : W1.cell? ⟨w.heap.size, 0, none⟩ = some (.string s) := by rw [← hW]; simp [go_sem]
  have H129 := Lib.hid (fun p W (hc : W.cell? ⟨w.heap.size, 0, none⟩ = some (.string s)) => c129 w.heap.size s p W hc)
  clear hW
  have hdn : decide (0 < n) = true := by
    have : 0 < n := by omega
    simpa using this
  simp only [hdn]
  go_loopw [5, 6, 7] (fun v5 v6 v7 wr => wr = W1 ∧ v6 = .bool false ∧ ∃ q : Nat, q ≤ n ∧ v5 = .bool (decide (q = 0)) ∧ v7 = .int .i64 q) (fun _ _ i _ => n - (intOf i).toNat)
  case atStart => exact ⟨rfl, rfl, 0, Nat.zero_le _, by first | rfl | (simp; omega), rfl⟩
  case round =>
    obtain ⟨rfl, rfl, q, hq, rfl, rfl⟩ := hrel
    by_cases hlt : q < n
    · by_cases hq0 : q = 0
      · subst hq0
        go_wp2_with fail
        go_roundw
        case rel => exact ⟨by first | rfl | trivial, rfl, 1, by omega, rfl, rfl⟩
        case measure => simp [intOf]; omega
      · have hdq : decide (q = 0) = false := by simpa using hq0
        rw [hdq]
        have hls : q < s.size := by omega
        obtain ⟨x, hx, hx10⟩ := HB.out q hls
        have ex : ((x : Int) == 10) = false := by
          have : ¬ (x : Int) = 10 := by omega
          simpa using this
        go_wp2_with fail
        go_roundw
        case rel => exact ⟨by first | rfl | trivial, rfl, q + 1, by omega, by simp, by go_num⟩
        case measure => simp [intOf]; omega
    · have hqn : n = q := by omega
      subst hqn
      have hdq : decide (n = 0) = false := by
        have : ¬ n = 0 := by omega
        simpa using this
      rw [hdq]
      clear HB hlt
      go_wp2_with fail
      refine (H129.out ⟨#[61]⟩ _ hcW).mono ?_
      rintro e w1 ⟨rfl, rfl⟩
      rw [p0]
      go_wp2_with fail
      go_region
      go_wp2_with fail
      (refine bodyPost_ret (v := .tuple #[.int .u8 11, .string (s.extract 1 n), .bool true]) ?_ rfl ?_; (focus (first | (simp [results, Tryz.results99, go_sem, hc1, hz1]; done) | (simp [results, Tryz.results99, go_sem]; done) | (simp [results, Tryz.results99, go_sem, *]; done))); exact ⟨by rw [hext'], Below.drew hbW⟩)
set_option maxRecDepth 100000 in
set_option maxHeartbeats 2000000 in
theorem c99_ne (s num : ByteArray) (w : World) (h : CT s [60, 62] num) (hn : NumT num) (hsz : num.size ≤ 100) :
    Calls Tryz.prog 99 #[.string s] w (Ret w (.tuple #[.int .u8 14, .string num, .bool true])) := by
  have hP := hasP_of h
  obtain ⟨h0, hb0', HB⟩ := ct_bytes h hn (by decide) 60 rfl
  have hb0 : (s[0]'h0).toNat = 60 := hb0'
  clear hb0'
  obtain ⟨heq, hext, hsize⟩ := h
  obtain ⟨c, r, hcr, hc1, hc2⟩ := hn.head
  have e61 : ((61 : UInt8) == c) = false := beq_eq_false_iff_ne.2 (Ne.symm hc1)
  have e62 : ((62 : UInt8) == c) = false := beq_eq_false_iff_ne.2 (Ne.symm hc2)
  have p0 : hasP s ⟨#[61]⟩ = false := by rw [hP, hcr]; simp [List.isPrefixOf, e61, e62]
  have p1 : hasP s ⟨#[60, 62]⟩ = true := by rw [hP, hcr]; rfl
  have hle : s.size ≤ 102 := by rw [hsize]; simp; omega
  have hL : 2 ≤ s.size := by rw [hsize]; simp
  have hext' : s.extract 2 s.size = num := hext
  clear hP heq hsize hcr hc1 hc2 hn hsz hext e61 e62
  obtain ⟨n, hsn⟩ : ∃ n, s.size = n := ⟨_, rfl⟩
  rw [hsn] at hext'
  go_enter Tryz.func99, Tryz.ntmps99
  go_wp2_with fail
  generalize hW : World.alloc w _ = W1
  have hbW : Below w.heap.size w W1 := by rw [← hW]; exact (by repeat (first | (with_reducible exact Below.refl _ _) | (with_reducible assumption) | ((with_reducible refine Below.alloc ?_ ?_ _); rotate_left; focus (first | exact Nat.le_refl _ | omega | (simp; done) | (simp; omega))) | ((with_reducible refine Below.setCell ?_ ?_ _); rotate_left; focus (first | exact Nat.le_refl _ | omega | (simp; done) | (simp; omega))) | (with_reducible refine Below.drew ?_) | (with_reducible refine below_drewN ?_ _) | ((with_reducible refine below_via (by assumption) ?_ ?_); focus (first | exact Nat.le_refl _ | omega | (simp; done) | (simp; omega)))))
  have hcW : W1.cell? ⟨w.heap.size, 0, none⟩ = some (.string s) := by rw [← hW]; simp [go_sem]
  have H129 := Lib.hid (fun p W (hc : W.cell? ⟨w.heap.size, 0, none⟩ = some (.string s)) => c129 w.heap.size s p W hc)
  clear hW
  have hdn : decide (0 < n) = true := by
    have : 0 < n := by omega
    simpa using this
  simp only [hdn]
  go_loopw [5, 6, 7] (fun v5 v6 v7 wr => wr = W1 ∧ v6 = .bool false ∧ ∃ q : Nat, q ≤ n ∧ v5 = .bool (decide (q = 0)) ∧ v7 = .int .i64 q) (fun _ _ i _ => n - (intOf i).toNat)
  case atStart => exact ⟨rfl, rfl, 0, Nat.zero_le _, by first | rfl | (simp; omega), rfl⟩
  case round =>
    obtain ⟨rfl, rfl, q, hq, rfl, rfl⟩ := hrel
    by_cases hlt : q < n
    · by_cases hq0 : q = 0
      · subst hq0
        go_wp2_with fail
        go_roundw
        case rel => exact ⟨by first | rfl | trivial, rfl, 1, by omega, rfl, rfl⟩
        case measure => simp [intOf]; omega
      · have hdq : decide (q = 0) = false := by simpa using hq0
        rw [hdq]
        have hls : q < s.size := by omega
        obtain ⟨x, hx, hx10⟩ := HB.out q hls
        have ex : ((x : Int) == 10) = false := by
          have : ¬ (x : Int) = 10 := by omega
          simpa using this
        go_wp2_with fail
        go_roundw
        case rel => exact ⟨by first | rfl | trivial, rfl, q + 1, by omega, by simp, by go_num⟩
        case measure => simp [intOf]; omega
    · have hqn : n = q := by omega
      subst hqn
      have hdq : decide (n = 0) = false := by
        have : ¬ n = 0 := by omega
        simpa using this
      rw [hdq]
      clear HB hlt
      go_wp2_with fail
      refine (H129.out ⟨#[61]⟩ _ hcW).mono ?_
      rintro e w1 ⟨rfl, rfl⟩
      rw [p0]
      go_wp2_with fail
      refine (H129.out ⟨#[60, 62]⟩ _ hcW).mono ?_
      rintro e w1 ⟨rfl, rfl⟩
      rw [p1]
      go_wp2_with fail
      go_region
      go_wp2_with fail
      (refine bodyPost_ret (v := .tuple #[.int .u8 14, .string (s.extract 2 n), .bool true]) ?_ rfl ?_; (focus (first | (simp [results, Tryz.results99, go_sem, hc1, hz1]; done) | (simp [results, Tryz.results99, go_sem]; done) | (simp [results, Tryz.results99, go_sem, *]; done))); exact ⟨by rw [hext'], Below.drew hbW⟩)
set_option maxRecDepth 100000 in
set_option maxHeartbeats 2000000 in
theorem c99_le (s num : ByteArray) (w : World) (h : CT s [60, 61] num) (hn : NumT num) (hsz : num.size ≤ 100) :
    Calls Tryz.prog 99 #[.string s] w (Ret w (.tuple #[.int .u8 12, .string num, .bool true])) := by
  have hP := hasP_of h
  obtain ⟨h0, hb0', HB⟩ := ct_bytes h hn (by decide) 60 rfl
  have hb0 : (s[0]'h0).toNat = 60 := hb0'
  clear hb0'
  obtain ⟨heq, hext, hsize⟩ := h
  obtain ⟨c, r, hcr, hc1, hc2⟩ := hn.head
  have e61 : ((61 : UInt8) == c) = false := beq_eq_false_iff_ne.2 (Ne.symm hc1)
  have e62 : ((62 : UInt8) == c) = false := beq_eq_false_iff_ne.2 (Ne.symm hc2)
  have p0 : hasP s ⟨#[61]⟩ = false := by rw [hP, hcr]; simp [List.isPrefixOf, e61, e62]
  have p1 : hasP s ⟨#[60, 62]⟩ = false := by rw [hP, hcr]; simp [List.isPrefixOf, e61, e62]
  have p2 : hasP s ⟨#[60, 61]⟩ = true := by rw [hP, hcr]; rfl
  have hle : s.size ≤ 102 := by rw [hsize]; simp; omega
  have hL : 2 ≤ s.size := by rw [hsize]; simp
  have hext' : s.extract 2 s.size = num := hext
  clear hP heq hsize hcr hc1 hc2 hn hsz hext e61 e62
  obtain ⟨n, hsn⟩ : ∃ n, s.size = n := ⟨_, rfl⟩
  rw [hsn] at hext'
  go_enter Tryz.func99, Tryz.ntmps99
  go_wp2_with fail
  generalize hW : World.alloc w _ = W1
  have hbW : Below w.heap.size w W1 := by rw [← hW]; exact (by repeat (first | (with_reducible exact Below.refl _ _) | (with_reducible assumption) | ((with_reducible refine Below.alloc ?_ ?_ _); rotate_left; focus (first | exact Nat.le_refl _ | omega | (simp; done) | (simp; omega))) | ((with_reducible refine Below.setCell ?_ ?_ _); rotate_left; focus (first | exact Nat.le_refl _ | omega | (simp; done) | (simp; omega))) | (with_reducible refine Below.drew ?_) | (with_reducible refine below_drewN ?_ _) | ((with_reducible refine below_via (by assumption) ?_ ?_); focus (first | exact Nat.le_refl _ | omega | (simp; done) | (simp; omega)))))
  have hcW : W1.cell? ⟨w.heap.size, 0, none⟩ = some (.string s) := by rw [← hW]; simp [go_sem]
  have H129 := Lib.hid (fun p W (hc : W.cell? ⟨w.heap.size, 0, none⟩ = some (.string s)) => c129 w.heap.size s p W hc)
  clear hW
  have hdn : decide (0 < n) = true := by
    have : 0 < n := by omega
    simpa using this
  simp only [hdn]
  go_loopw [5, 6, 7] (fun v5 v6 v7 wr => wr = W1 ∧ v6 = .bool false ∧ ∃ q : Nat, q ≤ n ∧ v5 = .bool (decide (q = 0)) ∧ v7 = .int .i64 q) (fun _ _ i _ => n - (intOf i).toNat)
  case atStart => exact ⟨rfl, rfl, 0, Nat.zero_le _, by first | rfl | (simp; omega), rfl⟩
  case round =>
    obtain ⟨rfl, rfl, q, hq, rfl, rfl⟩ := hrel
    by_cases hlt : q < n
    · by_cases hq0 : q = 0
      · subst hq0
        go_wp2_with fail
        go_roundw
        case rel => exact ⟨by first | rfl | trivial, rfl, 1, by omega, rfl, rfl⟩
        case measure => simp [intOf]; omega
      · have hdq : decide (q = 0) = false := by simpa using hq0
        rw [hdq]
        have hls : q < s.size := by omega
        obtain ⟨x, hx, hx10⟩ := HB.out q hls
        have ex : ((x : Int) == 10) = false := by
          have : ¬ (x : Int) = 10 := by omega
          simpa using this
        go_wp2_with fail
        go_roundw
        case rel => exact ⟨by first | rfl | trivial, rfl, q + 1, by omega, by simp, by go_num⟩
        case measure => simp [intOf]; omega
    · have hqn : n = q := by omega
      subst hqn
      have hdq : decide (n = 0) = false := by
        have : ¬ n = 0 := by omega
        simpa using this
      rw [hdq]
      clear HB hlt
      go_wp2_with fail
      refine (H129.out ⟨#[61]⟩ _ hcW).mono ?_
      rintro e w1 ⟨rfl, rfl⟩
      rw [p0]
      go_wp2_with fail
      refine (H129.out ⟨#[60, 62]⟩ _ hcW).mono ?_
      rintro e w1 ⟨rfl, rfl⟩
      rw [p1]
      go_wp2_with fail
      refine (H129.out ⟨#[60, 61]⟩ _ hcW).mono ?_
      rintro e w1 ⟨rfl, rfl⟩
      rw [p2]
      go_wp2_with fail
      go_region
      go_wp2_with fail
      (refine bodyPost_ret (v := .tuple #[.int .u8 12, .string (s.extract 2 n), .bool true]) ?_ rfl ?_; (focus (first | (simp [results, Tryz.results99, go_sem, hc1, hz1]; done) | (simp [results, Tryz.results99, go_sem]; done) | (simp [results, Tryz.results99, go_sem, *]; done))); exact ⟨by rw [hext'], Below.drew hbW⟩)
set_option maxRecDepth 100000 in
set_option maxHeartbeats 2000000 in
theorem c99_ge (s num : ByteArray) (w : World) (h : CT s [62, 61] num) (hn : NumT num) (hsz : num.size ≤ 100) :
    Calls Tryz.prog 99 #[.string s] w (Ret w (.tuple #[.int .u8 13, .string num, .bool true])) := by
  have hP := hasP_of h
  obtain ⟨h0, hb0', HB⟩ := ct_bytes h hn (by decide) 62 rfl
  have hb0 : (s[0]'h0).toNat = 62 := hb0'
  clear hb0'
  obtain ⟨heq, hext, hsize⟩ := h
  obtain ⟨c, r, hcr, hc1, hc2⟩ := hn.head
  have e61 : ((61 : UInt8) == c) = false := beq_eq_false_iff_ne.2 (Ne.symm hc1)
  have e62 : ((62 : UInt8) == c) = false := beq_eq_false_iff_ne.2 (Ne.symm hc2)
  have p0 : hasP s ⟨#[61]⟩ = false := by rw [hP, hcr]; simp [List.isPrefixOf, e61, e62]
  have p1 : hasP s ⟨#[60, 62]⟩ = false := by rw [hP, hcr]; simp [List.isPrefixOf, e61, e62]
  have p2 : hasP s ⟨#[60, 61]⟩ = false := by rw [hP, hcr]; simp [List.isPrefixOf, e61, e62]
  have p3 : hasP s ⟨#[62, 61]⟩ = true := by rw [hP, hcr]; rfl
  have hle : s.size ≤ 102 := by rw [hsize]; simp; omega
  have hL : 2 ≤ s.size := by rw [hsize]; simp
  have hext' : s.extract 2 s.size = num := hext
  clear hP heq hsize hcr hc1 hc2 hn hsz hext e61 e62
  obtain ⟨n, hsn⟩ : ∃ n, s.size = n := ⟨_, rfl⟩
  rw [hsn] at hext'
  go_enter Tryz.func99, Tryz.ntmps99
  go_wp2_with fail
  generalize hW : World.alloc w _ = W1
  have hbW : Below w.heap.size w W1 := by rw [← hW]; exact (by repeat (first | (with_reducible exact Below.refl _ _) | (with_reducible assumption) | ((with_reducible refine Below.alloc ?_ ?_ _); rotate_left; focus (first | exact Nat.le_refl _ | omega | (simp; done) | (simp; omega))) | ((with_reducible refine Below.setCell ?_ ?_ _); rotate_left; focus (first | exact Nat.le_refl _ | omega | (simp; done) | (simp; omega))) | (with_reducible refine Below.drew ?_) | (with_reducible refine below_drewN ?_ _) | ((with_reducible refine below_via (by assumption) ?_ ?_); focus (first | exact Nat.le_refl _ | omega | (simp; done) | (simp; omega)))))
  have hcW : W1.cell? ⟨w.heap.size, 0, none⟩ = some (.string s) := by rw [← hW]; simp [go_sem]
  have H129 := Lib.hid (fun p W (hc : W.cell? ⟨w.heap.size, 0, none⟩ = some (.string s)) => c129 w.heap.size s p W hc)
  clear hW
  have hdn : decide (0 < n) = true := by
    have : 0 < n := by omega
    simpa using this
  simp only [hdn]
  go_loopw [5, 6, 7] (fun v5 v6 v7 wr => wr = W1 ∧ v6 = .bool false ∧ ∃ q : Nat, q ≤ n ∧ v5 = .bool (decide (q = 0)) ∧ v7 = .int .i64 q) (fun _ _ i _ => n - (intOf i).toNat)
  case atStart => exact ⟨rfl, rfl, 0, Nat.zero_le _, by first | rfl | (simp; omega), rfl⟩
  case round =>
    obtain ⟨rfl, rfl, q, hq, rfl, rfl⟩ := hrel
    by_cases hlt : q < n
    · by_cases hq0 : q = 0
      · subst hq0
        go_wp2_with fail
        go_roundw
        case rel => exact ⟨by first | rfl | trivial, rfl, 1, by omega, rfl, rfl⟩
        case measure => simp [intOf]; omega
      · have hdq : decide (q = 0) = false := by simpa using hq0
        rw [hdq]
        have hls : q < s.size := by omega
        obtain ⟨x, hx, hx10⟩ := HB.out q hls
        have ex : ((x : Int) == 10) = false := by
          have : ¬ (x : Int) = 10 := by omega
          simpa using this
        go_wp2_with fail
        go_roundw
        case rel => exact ⟨by first | rfl | trivial, rfl, q + 1, by omega, by simp, by go_num⟩
        case measure => simp [intOf]; omega
    · have hqn : n = q := by omega
      subst hqn
      have hdq : decide (n = 0) = false := by
        have : ¬ n = 0 := by omega
        simpa using this
      rw [hdq]
      clear HB hlt
      go_wp2_with fail
      refine (H129.out ⟨#[61]⟩ _ hcW).mono ?_
      rintro e w1 ⟨rfl, rfl⟩
      rw [p0]
      go_wp2_with fail
      refine (H129.out ⟨#[60, 62]⟩ _ hcW).mono ?_
      rintro e w1 ⟨rfl, rfl⟩
      rw [p1]
      go_wp2_with fail
      refine (H129.out ⟨#[60, 61]⟩ _ hcW).mono ?_
      rintro e w1 ⟨rfl, rfl⟩
      rw [p2]
      go_wp2_with fail
      refine (H129.out ⟨#[62, 61]⟩ _ hcW).mono ?_
      rintro e w1 ⟨rfl, rfl⟩
      rw [p3]
      go_wp2_with fail
      go_region
      go_wp2_with fail
      (refine bodyPost_ret (v := .tuple #[.int .u8 13, .string (s.extract 2 n), .bool true]) ?_ rfl ?_; (focus (first | (simp [results, Tryz.results99, go_sem, hc1, hz1]; done) | (simp [results, Tryz.results99, go_sem]; done) | (simp [results, Tryz.results99, go_sem, *]; done))); exact ⟨by rw [hext'], Below.drew hbW⟩)
set_option maxRecDepth 100000 in
set_option maxHeartbeats 2000000 in
theorem c99_lt (s num : ByteArray) (w : World) (h : CT s [60] num) (hn : NumT num) (hsz : num.size ≤ 100) :
    Calls Tryz.prog 99 #[.string s] w (Ret w (.tuple #[.int .u8 15, .string num, .bool true])) := by
  have hP := hasP_of h
  obtain ⟨h0, hb0', HB⟩ := ct_bytes h hn (by decide) 60 rfl
  have hb0 : (s[0]'h0).toNat = 60 := hb0'
  clear hb0'
  obtain ⟨heq, hext, hsize⟩ := h
  obtain ⟨c, r, hcr, hc1, hc2⟩ := hn.head
  have e61 : ((61 : UInt8) == c) = false := beq_eq_false_iff_ne.2 (Ne.symm hc1)
  have e62 : ((62 : UInt8) == c) = false := beq_eq_false_iff_ne.2 (Ne.symm hc2)
  have p0 : hasP s ⟨#[61]⟩ = false := by rw [hP, hcr]; simp [List.isPrefixOf, e61, e62]
  have p1 : hasP s ⟨#[60, 62]⟩ = false := by rw [hP, hcr]; simp [List.isPrefixOf, e61, e62]
  have p2 : hasP s ⟨#[60, 61]⟩ = false := by rw [hP, hcr]; simp [List.isPrefixOf, e61, e62]
  have p3 : hasP s ⟨#[62, 61]⟩ = false := by rw [hP, hcr]; simp [List.isPrefixOf, e61, e62]
  have p4 : hasP s ⟨#[60]⟩ = true := by rw [hP, hcr]; rfl
  have hle : s.size ≤ 102 := by rw [hsize]; simp; omega
  have hL : 1 ≤ s.size := by rw [hsize]; simp
  have hext' : s.extract 1 s.size = num := hext
  clear hP heq hsize hcr hc1 hc2 hn hsz hext e61 e62
  obtain ⟨n, hsn⟩ : ∃ n, s.size = n := ⟨_, rfl⟩
  rw [hsn] at hext'
  go_enter Tryz.func99, Tryz.ntmps99
  go_wp2_with fail
  generalize hW : World.alloc w _ = W1
  have hbW : Below w.heap.size w W1 := by rw [← hW]; exact (by repeat (first | (with_reducible exact Below.refl _ _) | (with_reducible assumption) | ((with_reducible refine Below.alloc ?_ ?_ _); rotate_left; focus (first | exact Nat.le_refl _ | omega | (simp; done) | (simp; omega))) | ((with_reducible refine Below.setCell ?_ ?_ _); rotate_left; focus (first | exact Nat.le_refl _ | omega | (simp; done) | (simp; omega))) | (with_reducible refine Below.drew ?_) | (with_reducible refine below_drewN ?_ _) | ((with_reducible refine below_via (by assumption) ?_ ?_); focus (first | exact Nat.le_refl _ | omega | (simp; done) | (simp; omega)))))
  have hcW : W1.cell? ⟨w.heap.size, 0, none⟩ = some (.string s) := by rw [← hW]; simp [go_sem]
  have H129 := Lib.hid (fun p W (hc : W.cell? ⟨w.heap.size, 0, none⟩ = some (.string s)) => c129 w.heap.size s p W hc)
  clear hW
  have hdn : decide (0 < n) = true := by
    have : 0 < n := by omega
    simpa using this
  simp only [hdn]
  go_loopw [5, 6, 7] (fun v5 v6 v7 wr => wr = W1 ∧ v6 = .bool false ∧ ∃ q : Nat, q ≤ n ∧ v5 = .bool (decide (q = 0)) ∧ v7 = .int .i64 q) (fun _ _ i _ => n - (intOf i).toNat)
  case atStart => exact ⟨rfl, rfl, 0, Nat.zero_le _, by first | rfl | (simp; omega), rfl⟩
  case round =>
    obtain ⟨rfl, rfl, q, hq, rfl, rfl⟩ := hrel
    by_cases hlt : q < n
    · by_cases hq0 : q = 0
      · subst hq0
        go_wp2_with fail
        go_roundw
        case rel => exact ⟨by first | rfl | trivial, rfl, 1, by omega, rfl, rfl⟩
        case measure => simp [intOf]; omega
      · have hdq : decide (q = 0) = false := by simpa using hq0
        rw [hdq]
        have hls : q < s.size := by omega
        obtain ⟨x, hx, hx10⟩ := HB.out q hls
        have ex : ((x : Int) == 10) = false := by
          have : ¬ (x : Int) = 10 := by omega
          simpa using this
        go_wp2_with fail
        go_roundw
        case rel => exact ⟨by first | rfl | trivial, rfl, q + 1, by omega, by simp, by go_num⟩
        case measure => simp [intOf]; omega
    · have hqn : n = q := by omega
      subst hqn
      have hdq : decide (n = 0) = false := by
        have : ¬ n = 0 := by omega
        simpa using this
      rw [hdq]
      clear HB hlt
      go_wp2_with fail
      refine (H129.out ⟨#[61]⟩ _ hcW).mono ?_
      rintro e w1 ⟨rfl, rfl⟩
      rw [p0]
      go_wp2_with fail
      refine (H129.out ⟨#[60, 62]⟩ _ hcW).mono ?_
      rintro e w1 ⟨rfl, rfl⟩
      rw [p1]
      go_wp2_with fail
      refine (H129.out ⟨#[60, 61]⟩ _ hcW).mono ?_
      rintro e w1 ⟨rfl, rfl⟩
      rw [p2]
      go_wp2_with fail
      refine (H129.out ⟨#[62, 61]⟩ _ hcW).mono ?_
      rintro e w1 ⟨rfl, rfl⟩
      rw [p3]
      go_wp2_with fail
      refine (H129.out ⟨#[60]⟩ _ hcW).mono ?_
      rintro e w1 ⟨rfl, rfl⟩
      rw [p4]
      go_wp2_with fail
      go_region
      go_wp2_with fail
      (refine bodyPost_ret (v := .tuple #[.int .u8 15, .string (s.extract 1 n), .bool true]) ?_ rfl ?_; (focus (first | (simp [results, Tryz.results99, go_sem, hc1, hz1]; done) | (simp [results, Tryz.results99, go_sem]; done) | (simp [results, Tryz.results99, go_sem, *]; done))); exact ⟨by rw [hext'], Below.drew hbW⟩)
set_option maxRecDepth 100000 in
set_option maxHeartbeats 2000000 in
theorem c99_gt (s num : ByteArray) (w : World) (h : CT s [62] num) (hn : NumT num) (hsz : num.size ≤ 100) :
    Calls Tryz.prog 99 #[.string s] w (Ret w (.tuple #[.int .u8 16, .string num, .bool true])) := by
  have hP := hasP_of h
  obtain ⟨h0, hb0', HB⟩ := ct_bytes h hn (by decide) 62 rfl
  have hb0 : (s[0]'h0).toNat = 62 := hb0'
  clear hb0'
  obtain ⟨heq, hext, hsize⟩ := h
  obtain ⟨c, r, hcr, hc1, hc2⟩ := hn.head
  have e61 : ((61 : UInt8) == c) = false := beq_eq_false_iff_ne.2 (Ne.symm hc1)
  have e62 : ((62 : UInt8) == c) = false := beq_eq_false_iff_ne.2 (Ne.symm hc2)
  have p0 : hasP s ⟨#[61]⟩ = false := by rw [hP, hcr]; simp [List.isPrefixOf, e61, e62]
  have p1 : hasP s ⟨#[60, 62]⟩ = false := by rw [hP, hcr]; simp [List.isPrefixOf, e61, e62]
  have p2 : hasP s ⟨#[60, 61]⟩ = false := by rw [hP, hcr]; simp [List.isPrefixOf, e61, e62]
  have p3 : hasP s ⟨#[62, 61]⟩ = false := by rw [hP, hcr]; simp [List.isPrefixOf, e61, e62]
  have p4 : hasP s ⟨#[60]⟩ = false := by rw [hP, hcr]; simp [List.isPrefixOf, e61, e62]
  have p5 : hasP s ⟨#[62]⟩ = true := by rw [hP, hcr]; rfl
  have hle : s.size ≤ 102 := by rw [hsize]; simp; omega
  have hL : 1 ≤ s.size := by rw [hsize]; simp
  have hext' : s.extract 1 s.size = num := hext
  clear hP heq hsize hcr hc1 hc2 hn hsz hext e61 e62
  obtain ⟨n, hsn⟩ : ∃ n, s.size = n := ⟨_, rfl⟩
  rw [hsn] at hext'
  go_enter Tryz.func99, Tryz.ntmps99
  go_wp2_with fail
  generalize hW : World.alloc w _ = W1
  have hbW : Below w.heap.size w W1 := by rw [← hW]; exact (by repeat (first | (with_reducible exact Below.refl _ _) | (with_reducible assumption) | ((with_reducible refine Below.alloc ?_ ?_ _); rotate_left; focus (first | exact Nat.le_refl _ | omega | (simp; done) | (simp; omega))) | ((with_reducible refine Below.setCell ?_ ?_ _); rotate_left; focus (first | exact Nat.le_refl _ | omega | (simp; done) | (simp; omega))) | (with_reducible refine Below.drew ?_) | (with_reducible refine below_drewN ?_ _) | ((with_reducible refine below_via (by assumption) ?_ ?_); focus (first | exact Nat.le_refl _ | omega | (simp; done) | (simp; omega)))))
  have hcW : W1.cell? ⟨w.heap.size, 0, none⟩ = some (.string s) := by rw [← hW]; simp [go_sem]
  have H129 := Lib.hid (fun p W (hc : W.cell? ⟨w.heap.size, 0, none⟩ = some (.string s)) => c129 w.heap.size s p W hc)
  clear hW
  have hdn : decide (0 < n) = true := by
    have : 0 < n := by omega
    simpa using this
  simp only [hdn]
  go_loopw [5, 6, 7] (fun v5 v6 v7 wr => wr = W1 ∧ v6 = .bool false ∧ ∃ q : Nat, q ≤ n ∧ v5 = .bool (decide (q = 0)) ∧ v7 = .int .i64 q) (fun _ _ i _ => n - (intOf i).toNat)
  case atStart => exact ⟨rfl, rfl, 0, Nat.zero_le _, by first | rfl | (simp; omega), rfl⟩
  case round =>
    obtain ⟨rfl, rfl, q, hq, rfl, rfl⟩ := hrel
    by_cases hlt : q < n
    · by_cases hq0 : q = 0
      · subst hq0
        go_wp2_with fail
        go_roundw
        case rel => exact ⟨by first | rfl | trivial, rfl, 1, by omega, rfl, rfl⟩
        case measure => simp [intOf]; omega
      · have hdq : decide (q = 0) = false := by simpa using hq0
        rw [hdq]
        have hls : q < s.size := by omega
        obtain ⟨x, hx, hx10⟩ := HB.out q hls
        have ex : ((x : Int) == 10) = false := by
          have : ¬ (x : Int) = 10 := by omega
          simpa using this
        go_wp2_with fail
        go_roundw
        case rel => exact ⟨by first | rfl | trivial, rfl, q + 1, by omega, by simp, by go_num⟩
        case measure => simp [intOf]; omega
    · have hqn : n = q := by omega
      subst hqn
      have hdq : decide (n = 0) = false := by
        have : ¬ n = 0 := by omega
        simpa using this
      rw [hdq]
      clear HB hlt
      go_wp2_with fail
      refine (H129.out ⟨#[61]⟩ _ hcW).mono ?_
      rintro e w1 ⟨rfl, rfl⟩
      rw [p0]
      go_wp2_with fail
      refine (H129.out ⟨#[60, 62]⟩ _ hcW).mono ?_
      rintro e w1 ⟨rfl, rfl⟩
      rw [p1]
      go_wp2_with fail
      refine (H129.out ⟨#[60, 61]⟩ _ hcW).mono ?_
      rintro e w1 ⟨rfl, rfl⟩
      rw [p2]
      go_wp2_with fail
      refine (H129.out ⟨#[62, 61]⟩ _ hcW).mono ?_
      rintro e w1 ⟨rfl, rfl⟩
      rw [p3]
      go_wp2_with fail
      refine (H129.out ⟨#[60]⟩ _ hcW).mono ?_
      rintro e w1 ⟨rfl, rfl⟩
      rw [p4]
      go_wp2_with fail
      refine (H129.out ⟨#[62]⟩ _ hcW).mono ?_
      rintro e w1 ⟨rfl, rfl⟩
      rw [p5]
      go_wp2_with fail
      go_region
      go_wp2_with fail
      (refine bodyPost_ret (v := .tuple #[.int .u8 16, .string (s.extract 1 n), .bool true]) ?_ rfl ?_; (focus (first | (simp [results, Tryz.results99, go_sem, hc1, hz1]; done) | (simp [results, Tryz.results99, go_sem]; done) | (simp [results, Tryz.results99, go_sem, *]; done))); exact ⟨by rw [hext'], Below.drew hbW⟩)
end Go.Proofs.YtkhgaenffnoimaaGreatDoor
