/- Flat over one table of one row. -/
import Derived.Test.YtpahhejkpdkjmaaGreatDoorB3
set_option linter.unusedSimpArgs false
set_option linter.unusedVariables false
namespace Go.Proofs.YtpahhejkpdkjmaaGreatDoor
open Go.RowKit
attribute [local go_sem] run_store_float
theorem appAll {ops : Array Oper} {rest : List Oper} {o : Oper} {a : Act} {Q : Exit → Act → World → Prop} {W : World} (A : Addr) (c : Nat) (xs : List V) (s x : Operand) (hgd : o.guard = none)
    (ho : o.op = .call { callee := .builtin .append, args := #[s, x], argTypes := #[29, 29] })
    (hs : a.eval s = .slice none 0 0) (hx : a.eval x = .slice (some A) xs.length c)
    (HX : VRow W (some A) xs) (hl : xs.length ≤ 1000)
    (h : ∀ v1 w1, Own W w1 27 5 v1 (xs.map V.cells) → Below W.heap.size W w1 → wpList Tryz.prog ops Q rest (a.put o.dst v1) w1) :
    wpList Tryz.prog ops Q (o :: rest) a W := by
  obtain ⟨i0, hi, hzz⟩ := Option.map_eq_some_iff.1 info27
  simp only [Prod.mk.injEq] at hzz
  obtain ⟨hz0, hz1, hz2⟩ := hzz
  have hcl : ∀ l ∈ xs.map V.cells, l.length = 5 := by
    intro l hl
    obtain ⟨v, _, rfl⟩ := List.mem_map.1 hl
    rfl
  have hfl : (xs.map V.cells).flatten.length = xs.length * 5 := by
    clear HX hx hl h
    induction xs with
    | nil => rfl
    | cons y ys ih =>
      rw [List.map_cons, List.flatten_cons, List.length_append, ih (fun l hl => hcl l (by simp [hl])), List.length_cons]
      simp only [V.cells, List.length_cons, List.length_nil]
      omega
  refine wpList_append_own_at W hgd s x 29 ho W.heap.size 27 i0 _ 5 64 under29 hi hz0 hz1 hz2 rfl (by decide) _ 0 [] hs (World.ownsRow_nil _ _ _ _) A xs.length c (xs.map V.cells).flatten hx hfl ?_ ?_ (by simp only [maxLen]; omega) (by omega) (Nat.le_refl _) ?_
  · intro j u hj
    rcases HX with rfl | ⟨g, hg, hgl, hc⟩
    · simp at hj
    · cases hg
      have hjl : j < xs.length * 5 := by rw [← hfl]; exact (List.getElem?_eq_some_iff.1 hj).1
      have hq : j / 5 < xs.length := by omega
      obtain ⟨v, hv⟩ : ∃ v, xs[j / 5]? = some v := ⟨_, List.getElem?_eq_getElem hq⟩
      have hjm : (xs.map V.cells)[j / 5]? = some v.cells := by rw [List.getElem?_map, hv]; rfl
      have hm : j % 5 < v.cells.length := Nat.mod_lt _ (by decide)
      have he := flatten_at (xs.map V.cells) hcl (j / 5) v.cells hjm (j % 5) _ (List.getElem?_eq_getElem hm)
      have hd : j / 5 * 5 + j % 5 = j := by omega
      rw [hd, hj] at he
      have hrow : CRow W (some ⟨g, 0, none⟩) 5 (xs.map V.cells) := VRow.crow (.inr ⟨g, rfl, hgl, hc⟩)
      rcases hrow with h0 | ⟨g', hg', _, hcc⟩
      · rw [h0] at hjm; simp at hjm
      · cases hg'
        have := hcc (j / 5) v.cells hjm (j % 5) _ (List.getElem?_eq_getElem hm)
        rw [hd] at this
        rw [addr0, this, he]
  · intro u hu
    obtain ⟨l, hl, hul⟩ := List.mem_flatten.1 hu
    obtain ⟨v, _, rfl⟩ := List.mem_map.1 hl
    simp only [V.cells, List.mem_cons, List.not_mem_nil, or_false] at hul
    rcases hul with rfl | rfl | rfl | rfl | rfl <;> rfl
  · intro v1 w1 hown hg _ _
    refine h v1 w1 ⟨?_, hcl⟩ ((Below.refl _ _).grown hg (Nat.le_refl _) fun k hk => by simp [Value.ownBlock] at hk)
    simpa using hown
set_option maxRecDepth 100000 in
set_option maxHeartbeats 1000000 in
theorem c30T (xs : List V) (A : Option Addr) (c g g2 : Nat) (n d : Int) (t : ByteArray) (w : World) (hl : xs.length ≤ 1000) (hx : VRow w A xs) (hA : A = none → xs = []) (hk : ∀ v, v ∈ xs → v.k ≠ 5)
    (hg : g < w.heap.size) (hg2 : g2 < w.heap.size)
    (h0 : w.cell? ⟨g, 0, none⟩ = some (.int .i64 5)) (h1 : w.cell? ⟨g, 1, none⟩ = some (.int .i64 n)) (h2 : w.cell? ⟨g, 2, none⟩ = some (.int .i64 d)) (h3 : w.cell? ⟨g, 3, none⟩ = some (.string t)) (h4 : w.cell? ⟨g, 4, none⟩ = some (.slice (some ⟨g2, 0, none⟩) 1 1))
    (hr : w.cell? ⟨g2, 0, none⟩ = some (.slice A xs.length c)) (c1 : Nat) :
    Calls Tryz.prog 30 #[.slice (some ⟨g, 0, none⟩) 1 c1] w (RetS w xs) := by
  go_enter Tryz.func30, Tryz.ntmps30
  go_wp2_with fail
  refine wp_loop_rounds 2 ?_
  rw [rounds_succ]
  go_wp2_with fail
  refine wp_loop_rounds 2 ?_
  rw [rounds_succ]
  go_wp2_with fail
  refine (c30 xs A c w hl hx hk).mono ?_
  rintro e w1 ⟨A', c', rfl, hx', hb1⟩
  obtain ⟨hc1, hf1, hz1⟩ := bcell hb1
  have hs1 := hb1.size
  rcases A' with _ | a'
  · have h0' : xs = [] := by rcases hx' with h | ⟨_, h, _⟩; exact h; cases h
    subst h0'
    go_wp2_with fail
    rw [rounds_succ]
    go_wp2_with fail
    rw [rounds_succ]
    go_wp2_with fail
    go_ret
    exact ⟨none, 0, rfl, .inl rfl, hb1⟩
  · go_wp2_with (at_builtin; refine appAll a' c' xs _ _ rfl rfl rfl rfl hx' hl ?_; intro v1 w2 ho2 hb2)
    obtain ⟨hc2, hf2, hz2⟩ := bcell hb2
    have hs2 := hb2.size
    have hl2 : g < w1.heap.size := by omega
    have hm2 : g < w2.heap.size := by omega
    have HO := Lib.hid ho2
    clear ho2
    rw [rounds_succ]
    go_wp2_with fail
    rw [rounds_succ]
    go_wp2_with fail
    go_ret
    obtain ⟨A3, c3, e, h3', _⟩ := HO.out.retS hb2
    exact ⟨A3, c3, e, h3', below_then hb1 hs1 hb2⟩
end Go.Proofs.YtpahhejkpdkjmaaGreatDoor
