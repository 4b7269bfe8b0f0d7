/- The reference's answer for CONCATENATE: joined. -/
import Derived.Test.YtpahhejkpdkjmaaGreatDoorDJ
set_option linter.unusedSimpArgs false
set_option linter.unusedVariables false
namespace Go.Proofs.YtpahhejkpdkjmaaGreatDoor
open Go.RowKit
attribute [local go_sem] run_store_float
theorem c40J (ss : List ByteArray) (A : Option Addr) (c : Nat) (w : World) (hl : ss.length ≤ 20) (hx : VRow w A (ss.map vS)) (hs : ∀ s, s ∈ ss → s.size ≤ 1000) :
    Calls Tryz.prog 40 #[.string ⟨#[67, 79, 78, 67, 65, 84, 69, 78, 65, 84, 69]⟩, .slice A ss.length c] w (RetB w fun b => b = true → 0 < ss.length) := by
  refine c40g _ A ss.length c w (fun b => b = true → 0 < ss.length) (fun W2 hW2 => ?_) (fun W2 hW2 => c63J ss A c W2 hl (hx.below hW2) hs)
  have h := c62J (ss.map vS) A c W2 (by rw [List.length_map]; omega) (hx.below hW2) ?_
  · rw [List.length_map] at h
    exact h
  · intro v hv w'
    obtain ⟨s, hm, rfl⟩ := List.mem_map.1 hv
    exact c144_text 0 0 s w' (by have := hs s hm; omega)
set_option maxRecDepth 100000 in
set_option maxHeartbeats 1000000 in
theorem c112 (ss : List ByteArray) (A : Option Addr) (c : Nat) (w : World) (hl : ss.length ≤ 20) (h0 : 0 < ss.length) (hx : VRow w A (ss.map vS)) (hs : ∀ s, s ∈ ss → s.size ≤ 1000) :
    Calls Tryz.prog 112 #[.string ⟨#[67, 79, 78, 67, 65, 84, 69, 78, 65, 84, 69]⟩, .slice A ss.length c] w (RetV w (VR (CatR ss))) := by
  have hT : ∀ v, v ∈ ss.map vS → ∀ w', Calls Tryz.prog 149 #[.agg #[.int .i64 v.k, .int .i64 v.n, .int .i64 v.d, .string v.t, .slice none 0 0]] w' (RetV w' (AsV V.t v)) := by
    intro v hv w'
    obtain ⟨s, hm, rfl⟩ := List.mem_map.1 hv
    exact (c149_text 0 0 s w' (by have := hs s hm; omega)).mono fun _ _ ⟨r, e, ⟨u, hr, hu⟩, hb⟩ => ⟨r, e, ⟨u, hr, hu.imp (fun h => by rw [h]; exact ⟨rfl, rfl⟩) id⟩, hb⟩
  have H208 := Lib.hid (fun W (hW : Below w.heap.size w W) => c208 V.t (ss.map vS) A c W (by rw [List.length_map]; omega) (by rw [List.length_map]; exact h0) (hx.below hW) hT)
  rw [List.length_map] at H208
  have HSZ := Lib.hid (cat_size ss hs)
  have HSS := Lib.hid hs
  clear hT hx hs
  obtain ⟨n, hn⟩ : ∃ n, n = ss.length := ⟨_, rfl⟩
  rw [← hn] at H208 hl h0 HSZ ⊢
  have HN := Lib.hid hn
  clear hn
  go_enter Tryz.func112, Tryz.ntmps112
  go_wp2_with fail
  have HZ0 := Lib.hid (zcell_new w)
  generalize hW : World.alloc w _ = W0 at HZ0 ⊢
  have hB0 : Below w.heap.size w W0 := by rw [← hW]; exact (by repeat (first | (with_reducible exact Below.refl _ _) | (with_reducible assumption) | ((with_reducible refine Below.alloc ?_ ?_ _); rotate_left; focus (first | exact Nat.le_refl _ | omega | (simp; done) | (simp; omega))) | ((with_reducible refine Below.setCell ?_ ?_ _); rotate_left; focus (first | exact Nat.le_refl _ | omega | (simp; done) | (simp; omega))) | (with_reducible refine Below.drew ?_) | (with_reducible refine below_drewN ?_ _) | ((with_reducible refine below_via (by assumption) ?_ ?_); focus (first | exact Nat.le_refl _ | omega | (simp; done) | (simp; omega)))))
  clear hW
  refine (H208.out W0 hB0).mono ?_
  rintro e w1 ⟨hb1, hr⟩
  have hB1 : Below w.heap.size w w1 := keepS hb1 hB0
  have HZ1 := Lib.hid (HZ0.out.below hb1)
  have hs1 : w.heap.size < w1.heap.size := HZ1.out.lt
  clear hb1 HZ0
  have hL := HN.out
  simp only [List.length_map, ← hL] at hr
  clear hL
  rcases hr with ⟨A1, c1, u, rfl, hrow⟩ | rfl
  · rcases hrow with h | ⟨g, rfl, hg, hc⟩
    · rw [List.map_map] at h
      have := List.map_eq_nil_iff.1 h
      rw [this] at HN
      have := HN.out
      simp at this
      omega
    have HC : Hid (∀ (k : Nat) (s : ByteArray), ss[k]? = some s → w1.cell? ⟨g, k, none⟩ = some (.string s)) := Lib.hid fun k s hk => by
      have := hc k (tcell s) (by rw [List.map_map, List.getElem?_map, hk]; rfl) 0 _ rfl
      simpa using this
    clear hc
    go_wp2_with fail
    generalize hW2 : World.alloc w1 _ = W2
    have hB2 : Below w1.heap.size w1 W2 := by rw [← hW2]; exact (by repeat (first | (with_reducible exact Below.refl _ _) | (with_reducible assumption) | ((with_reducible refine Below.alloc ?_ ?_ _); rotate_left; focus (first | exact Nat.le_refl _ | omega | (simp; done) | (simp; omega))) | ((with_reducible refine Below.setCell ?_ ?_ _); rotate_left; focus (first | exact Nat.le_refl _ | omega | (simp; done) | (simp; omega))) | (with_reducible refine Below.drew ?_) | (with_reducible refine below_drewN ?_ _) | ((with_reducible refine below_via (by assumption) ?_ ?_); focus (first | exact Nat.le_refl _ | omega | (simp; done) | (simp; omega)))))
    clear hW2
    have HZ2 := Lib.hid (HZ1.out.below hB2)
    have hBW : Below w.heap.size w W2 := keepS hB2 hB1
    have HC2 : Hid (∀ (k : Nat) (s : ByteArray), ss[k]? = some s → W2.cell? ⟨g, k, none⟩ = some (.string s)) := Lib.hid fun k s hk => (hB2.cell (p := ⟨g, k, none⟩) hg).trans (HC.out k s hk)
    clear HC HZ1 hB1 hB2 hs1 hB0
    go_loopw [8, 9] (fun a i wr => wr = W2 ∧ ∃ k : Nat, k ≤ n ∧ i = .int .i64 k ∧ a = .string (cat (ss.take k))) (fun _ i _ => n - (intOf i).toNat)
    case atStart => exact ⟨rfl, 0, Nat.zero_le _, rfl, rfl⟩
    case round =>
      obtain ⟨rfl, k, hk, rfl, rfl⟩ := hrel
      have hz := HSZ.out k hk
      have hz2 : ¬ 20000 < (cat (ss.take k)).size := by omega
      by_cases hlt : k < n
      · obtain ⟨s, hv⟩ : ∃ s, ss[k]? = some s := ⟨_, List.getElem?_eq_getElem (by rw [← HN.out]; exact hlt)⟩
        have h0 := HC2.out k s hv
        have hss := HSS.out s (List.mem_of_getElem? hv)
        have hadd : ¬ 9223372036854775807 < (cat (ss.take k)).size + s.size := by omega
        have HV := Lib.hid hv
        clear hv
        go_wp2_with fail
        go_roundw
        case rel => exact ⟨by first | rfl | trivial, k + 1, by omega, by go_num, by rw [cat_take HV.out]⟩
        case measure => simp [intOf]; omega
      · have hk' : k = ss.length := by rw [← HN.out]; omega
        have hcat : cat (ss.take k) = cat ss := by rw [hk', List.take_length]
        rw [hcat] at hz2
        rw [hcat]
        go_wp2_with fail
        refine (c10 (cat ss) _).mono ?_
        rintro e w2 ⟨rfl, hb2⟩
        obtain ⟨hsz, q0, q1, q2, q3, q4, r0, r1, r2, r3, r4⟩ := HZ2.out.below hb2
        have hBF : Below w.heap.size w w2 := keepS hb2 hBW
        clear hb2
        go_wp2_with fail
        (refine bodyPost_ret (v := .agg #[.int .i64 2, .int .i64 0, .int .i64 0, .string (cat ss), .slice none 0 0]) ?_ rfl ?_; (focus (first | (simp [results, Tryz.results112, go_sem, hc1, hz1]; done) | (simp [results, Tryz.results112, go_sem]; done) | (simp [results, Tryz.results112, go_sem, *]; done))); exact retV_mk _ ⟨⟨2, 0, 0, cat ss⟩, rfl, .inr rfl⟩ (by repeat (first | (with_reducible exact Below.refl _ _) | (with_reducible assumption) | ((with_reducible refine Below.alloc ?_ ?_ _); rotate_left; focus (first | exact Nat.le_refl _ | omega | (simp; done) | (simp; omega))) | ((with_reducible refine Below.setCell ?_ ?_ _); rotate_left; focus (first | exact Nat.le_refl _ | omega | (simp; done) | (simp; omega))) | (with_reducible refine Below.drew ?_) | (with_reducible refine below_drewN ?_ _) | ((with_reducible refine below_via (by assumption) ?_ ?_); focus (first | exact Nat.le_refl _ | omega | (simp; done) | (simp; omega))))))
  · obtain ⟨hsz, q0, q1, q2, q3, q4, r0, r1, r2, r3, r4⟩ := HZ1.out
    go_wp2_with fail
    (refine bodyPost_ret (v := .agg #[.int .i64 6, .int .i64 0, .int .i64 0, .string ⟨#[]⟩, .slice none 0 0]) ?_ rfl ?_; (focus (first | (simp [results, Tryz.results112, go_sem, hc1, hz1]; done) | (simp [results, Tryz.results112, go_sem]; done) | (simp [results, Tryz.results112, go_sem, *]; done))); exact retV_mk _ ⟨VD, rfl, .inl rfl⟩ (by repeat (first | (with_reducible exact Below.refl _ _) | (with_reducible assumption) | ((with_reducible refine Below.alloc ?_ ?_ _); rotate_left; focus (first | exact Nat.le_refl _ | omega | (simp; done) | (simp; omega))) | ((with_reducible refine Below.setCell ?_ ?_ _); rotate_left; focus (first | exact Nat.le_refl _ | omega | (simp; done) | (simp; omega))) | (with_reducible refine Below.drew ?_) | (with_reducible refine below_drewN ?_ _) | ((with_reducible refine below_via (by assumption) ?_ ?_); focus (first | exact Nat.le_refl _ | omega | (simp; done) | (simp; omega))))))
set_option maxRecDepth 100000 in
set_option maxHeartbeats 1000000 in
theorem c45J (ss : List ByteArray) (A : Option Addr) (c : Nat) (w : World) (hl : ss.length ≤ 20) (h0 : 0 < ss.length) (hx : VRow w A (ss.map vS)) (hs : ∀ s, s ∈ ss → s.size ≤ 1000) :
    Calls Tryz.prog 45 #[.string ⟨#[67, 79, 78, 67, 65, 84, 69, 78, 65, 84, 69]⟩, .slice A ss.length c] w (RetV w (TwoR (CatR ss))) := by
  have H112 := Lib.hid (fun W (hW : Below w.heap.size w W) => c112 ss A c W hl h0 (hx.below hW) hs)
  clear hx hs
  obtain ⟨n, hn⟩ : ∃ n, n = ss.length := ⟨_, rfl⟩
  rw [← hn] at H112 ⊢
  clear hn
  go_enter Tryz.func45, Tryz.ntmps45
  go_wp2_with fail
  have HZ0 := Lib.hid (zcell_new w)
  generalize hW : World.alloc w _ = W0 at HZ0 ⊢
  have hB0 : Below w.heap.size w W0 := by rw [← hW]; exact (by repeat (first | (with_reducible exact Below.refl _ _) | (with_reducible assumption) | ((with_reducible refine Below.alloc ?_ ?_ _); rotate_left; focus (first | exact Nat.le_refl _ | omega | (simp; done) | (simp; omega))) | ((with_reducible refine Below.setCell ?_ ?_ _); rotate_left; focus (first | exact Nat.le_refl _ | omega | (simp; done) | (simp; omega))) | (with_reducible refine Below.drew ?_) | (with_reducible refine below_drewN ?_ _) | ((with_reducible refine below_via (by assumption) ?_ ?_); focus (first | exact Nat.le_refl _ | omega | (simp; done) | (simp; omega)))))
  clear hW
  refine (H112.out W0 hB0).mono ?_
  rintro e w1 ⟨_, rfl, ⟨u, rfl, hr⟩, hb1⟩
  obtain ⟨hsz, q0, q1, q2, q3, q4, r0, r1, r2, r3, r4⟩ := HZ0.out.below hb1
  have hB1 : Below w.heap.size w w1 := keepS hb1 hB0
  have HR := Lib.hid hr
  clear hb1 hr
  go_wp2_with fail
  (refine bodyPost_ret (v := .tuple #[.agg #[.int .i64 u.k, .int .i64 u.n, .int .i64 u.d, .string u.t, .slice none 0 0], .bool true]) ?_ rfl ?_; (focus (first | (simp [results, Tryz.results45, go_sem, hc1, hz1]; done) | (simp [results, Tryz.results45, go_sem]; done) | (simp [results, Tryz.results45, go_sem, *]; done))); exact retV_mk _ ⟨u, rfl, HR.out⟩ (by repeat (first | (with_reducible exact Below.refl _ _) | (with_reducible assumption) | ((with_reducible refine Below.alloc ?_ ?_ _); rotate_left; focus (first | exact Nat.le_refl _ | omega | (simp; done) | (simp; omega))) | ((with_reducible refine Below.setCell ?_ ?_ _); rotate_left; focus (first | exact Nat.le_refl _ | omega | (simp; done) | (simp; omega))) | (with_reducible refine Below.drew ?_) | (with_reducible refine below_drewN ?_ _) | ((with_reducible refine below_via (by assumption) ?_ ?_); focus (first | exact Nat.le_refl _ | omega | (simp; done) | (simp; omega))))))
theorem c17J (ss : List ByteArray) (A : Option Addr) (c : Nat) (w : World) (hl : ss.length ≤ 20) (hx : VRow w A (ss.map vS)) (hs : ∀ s, s ∈ ss → s.size ≤ 1000) :
    Calls Tryz.prog 17 #[.string ⟨#[67, 79, 78, 67, 65, 84, 69, 78, 65, 84, 69]⟩, .slice A ss.length c] w (RetV w (VR (fun u => u = VD ∨ (0 < ss.length ∧ CatR ss u)))) := by
  refine c17g _ A ss.length c w _ fun W hW => ?_
  by_cases h0 : 0 < ss.length
  · refine ((c29g _ A ss.length c W (fun _ => True) (CatR ss) (fun W1 hW1 => ?_) (fun W1 => c41J _ W1) (fun W1 => c42J _ W1) (fun W1 => c43J _ W1) (fun W1 => c44J _ W1) (fun W1 hW1 _ => c45J ss A c W1 hl h0 ((hx.below hW).below hW1) hs)).mono ?_)
    · refine (c40J ss A c W1 hl (((hx.below hW).below hW1)) hs).mono ?_
      rintro e w' ⟨b, rfl, _, hb⟩
      exact ⟨b, rfl, trivial, hb⟩
    · rintro e w' ⟨r, he, ⟨u, hr, hu⟩, hb⟩
      exact ⟨r, he, ⟨u, hr, hu.elim .inl fun h => .inr ⟨h0, h⟩⟩, hb⟩
  · refine ((c29g _ A ss.length c W (fun b => b = true → 0 < ss.length) (fun u => u = VD) (fun W1 hW1 => c40J ss A c W1 hl (((hx.below hW).below hW1)) hs) (fun W1 => c41J _ W1) (fun W1 => c42J _ W1) (fun W1 => c43J _ W1) (fun W1 => c44J _ W1) (fun W1 hW1 h => absurd (h rfl) h0)).mono ?_)
    rintro e w' ⟨r, he, ⟨u, hr, hu⟩, hb⟩
    exact ⟨r, he, ⟨u, hr, .inl (hu.elim id id)⟩, hb⟩
end Go.Proofs.YtpahhejkpdkjmaaGreatDoor
