/- setDigits of a whole number. -/
import Derived.Test.YtkhgaenffnoimaaGreatDoorK4
import Derived.Test.YtkhgaenffnoimaaGreatDoorB1
set_option linter.unusedSimpArgs false
set_option linter.unusedVariables false
namespace Go.Proofs.YtkhgaenffnoimaaGreatDoor
open Go.RowKit Go.Sort Go.Lib
attribute [local go_sem] run_store_float
def encB (b : UInt8) : Value := .int .u8 (b.toNat : Int)
theorem below_putRow (w : World) (blk off n : Nat) (d : Array UInt8) : Below blk w ((putRow (fun (b : UInt8) => Value.int .u8 (b.toNat : Int)) w blk off d).drewN n) :=
  ⟨rfl, rfl, rfl, by show w.heap.size ≤ (putRow _ w blk off d).heap.size; simp, fun k hk => by
    show (putRow _ w blk off d).heap[k]? = _
    unfold putRow mapBlock
    simp only [Array.getElem?_modify]
    rw [if_neg (by omega)]⟩
set_option maxRecDepth 100000 in
set_option maxHeartbeats 1000000 in
theorem c188 (b nd d : Nat) (pI : Int) (w : World) (hd : d < 10 ^ nd) (hd64 : d < 18446744073709551616) (hnd : nd ≤ 32) (hp0 : -20 ≤ pI) (hp1 : pI ≤ 20) (hb : b < w.heap.size)
    (hz : ∀ j, j < 32 → w.cell? ⟨b, j, none⟩ = some (.int .u8 0)) (hf : ∀ j, w.frozen? ⟨b, j, none⟩ = false) :
    Calls Tryz.prog 188 #[.slice (some ⟨b, 0, none⟩) 32 32, .int .u64 d, .int .i64 pI, .int .i64 nd] w (fun e w' => ∃ nz : Nat, e = .returned (.tuple #[.int .i64 ((nd : Int) + pI), .int .i64 nz]) ∧ nz ≤ nd ∧ (0 < nz → dg d (nd - 1 - (nz - 1)) ≠ 48) ∧ (∀ j, nz ≤ j → j < nd → dg d (nd - 1 - j) = 48) ∧
      (∀ j, j < nd → w'.cell? ⟨b, j, none⟩ = some (.int .u8 ((dg d (nd - 1 - j)).toNat : Int))) ∧ Below b w w') := by
  have hH0 : Holds (fun (b : UInt8) => Value.int .u8 (b.toNat : Int)) w b 0 (Array.replicate nd (0 : UInt8)) := fun j hj => by
    have hj' : j < nd := by simpa using hj
    refine ⟨?_, hf _⟩
    rw [Nat.zero_add, hz j (by omega)]
    simp [getElem!_pos, hj']
  have H266 := Tryz.internal_strconv_formatBase10 b 0 32 d (Array.replicate nd 0) w hH0 (by rw [Array.size_replicate]; exact hd) hd64 (by rw [Array.size_replicate]; omega)
  rw [Array.size_replicate] at H266
  have H266' := Lib.hid H266
  have HH0 := Lib.hid hH0
  clear H266 hH0 hd hd64
  go_enter Tryz.func188, Tryz.ntmps188
  go_wp2_with fail
  refine H266'.out.mono ?_
  rintro e w2 ⟨rfl, n, v', dk, hw2, hinv⟩
  have hsz : dk.size = nd := hinv.size
  have hcell : ∀ j, j < nd → w2.cell? ⟨b, j, none⟩ = some (.int .u8 (dk[j]!.toNat : Int)) := fun j hj => by
    have h := cell?_putRow (fun (b : UInt8) => Value.int .u8 (b.toNat : Int)) w b 0 _ dk HH0.out (by rw [hsz, Array.size_replicate]) j (by omega)
    rw [Nat.zero_add] at h
    rw [hw2]
    exact h
  have hbel : Below b w w2 := by rw [hw2]; exact below_putRow w b 0 n dk
  have HD : Hid (∀ t, t < nd → dk[t]! = dg d (nd - 1 - t)) := Lib.hid fun t ht => hinv.done t (Nat.zero_le _) ht
  have HC := Lib.hid hcell
  clear hcell hinv hw2 HH0 hz hf
  go_wp2_with fail
  go_loopw [3] (fun i wr => wr = w2 ∧ ∃ m : Nat, m ≤ nd ∧ i = .int .i64 m ∧ Hid (∀ j, m ≤ j → j < nd → dg d (nd - 1 - j) = 48)) (fun i _ => (RowKit.intOf i).toNat)
  case atStart => exact ⟨rfl, nd, Nat.le_refl _, rfl, Lib.hid fun j h0 h1 => absurd h1 (by omega)⟩
  case round =>
    obtain ⟨rfl, m, hm, rfl, HZ⟩ := hrel
    by_cases h0 : 0 < m
    · have hc := HC.out (m - 1) (by omega)
      have em : ((m - 1 : Nat) : Int) = (m : Int) - 1 := by omega
      by_cases h48 : dk[m - 1]! = 48
      · rw [h48] at hc
        go_wp2_with fail
        go_roundw
        case rel => exact ⟨by first | rfl | trivial, m - 1, by omega, by rw [em], Lib.hid fun j hj0 hj1 => by
          rcases Nat.lt_or_ge j m with hjm | hjm
          · have ej : j = m - 1 := by omega
            rw [ej, ← HD.out (m - 1) (by omega)]
            exact h48
          · exact HZ.out j hjm hj1⟩
        case measure => simp [RowKit.intOf]; omega
      · have h48i : ¬ ((dk[m - 1]!.toNat : Int) = 48) := fun h => h48 (by
          have h2 : dk[m - 1]!.toNat = 48 := by omega
          exact UInt8.toNat_inj.1 h2)
        go_wp2_with fail
        (refine bodyPost_ret (v := .tuple #[.int .i64 ((nd : Int) + pI), .int .i64 m]) ?_ rfl ?_; (focus (first | (simp [results, Tryz.results188, go_sem, hc1, hz1]; done) | (simp [results, Tryz.results188, go_sem]; done) | (simp [results, Tryz.results188, go_sem, *]; done))); exact ⟨m, rfl, hm, fun _ => by rw [← HD.out (m - 1) (by omega)]; exact h48, HZ.out, fun j hj => by rw [← HD.out j hj]; exact HC.out j hj, hbel⟩)
    · have hm0 : m = 0 := by omega
      subst hm0
      go_wp2_with fail
      (refine bodyPost_ret (v := .tuple #[.int .i64 ((nd : Int) + pI), .int .i64 0]) ?_ rfl ?_; (focus (first | (simp [results, Tryz.results188, go_sem, hc1, hz1]; done) | (simp [results, Tryz.results188, go_sem]; done) | (simp [results, Tryz.results188, go_sem, *]; done))); exact ⟨0, rfl, Nat.zero_le _, fun h => absurd h (Nat.lt_irrefl _), HZ.out, fun j hj => by rw [← HD.out j hj]; exact HC.out j hj, hbel⟩)
end Go.Proofs.YtkhgaenffnoimaaGreatDoor
/- fmtEFG of a whole number. -/
set_option linter.unusedSimpArgs false
set_option linter.unusedVariables false
namespace Go.Proofs.YtkhgaenffnoimaaGreatDoor
open Go.RowKit
attribute [local go_sem] run_store_float
theorem under147 : Tryz.prog.underlying 147 = some (.slice 5) := by kernel_rfl
theorem info5 : (Tryz.prog.info? 5).map (fun i => (i.zero, i.size, i.bytes)) = some (some (.int .u8 0), 1, 1) := by kernel_rfl
/-- append of one byte: as app1, with a word on the other blocks. -/
theorem app5 {ops : Array Oper} {rest : List Oper} {o : Oper} {a : Act} {Q : Exit → Act → World → Prop} {w0 W : World} (v : Value) (xs : List (List Value)) (y : Int) (s x : Operand) (hgd : o.guard = none)
    (ho : o.op = .call { callee := .builtin .append, args := #[s, x], argTypes := #[147, 147] })
    (hs : a.eval s = v) (hx : a.eval x = .slice (some ⟨W.heap.size, 0, none⟩) 1 1)
    (HO : Own w0 W 5 1 v xs) (HB : Below w0.heap.size w0 W) (hl : xs.length ≤ 100000)
    (h : ∀ v1 w1, Own w0 w1 5 1 v1 (xs ++ [[.int .u8 y]]) → Below w0.heap.size w0 w1 → (∀ k, k < W.heap.size → v.ownBlock ≠ some k → w1.heap[k]? = W.heap[k]? ∧ v1.ownBlock ≠ some k) → W.heap.size ≤ w1.heap.size → wpList Tryz.prog ops Q rest (a.put o.dst v1) w1) :
    wpList Tryz.prog ops Q (o :: rest) a (W.alloc (.cells #[.int .u8 y] 5)) := by
  obtain ⟨i0, hi, hzz⟩ := Option.map_eq_some_iff.1 info5
  simp only [Prod.mk.injEq] at hzz
  obtain ⟨hz0, hz1, hz2⟩ := hzz
  refine wpList_append_own_at (W.alloc (.cells #[.int .u8 y] 5)) hgd s x 147 ho w0.heap.size 5 i0 (.int .u8 0) 1 1 under147 hi hz0 hz1 hz2 rfl (by decide) v xs.length xs.flatten hs (HO.1.alloc _) ⟨W.heap.size, 0, none⟩ 1 1 [.int .u8 y] hx rfl
    (fun j u hu => by rw [addr0, cell_of_row _ W.heap.size j _ 5 (0, 0) (heap_alloc_new W (.cells #[.int .u8 y] 5))]; simpa using hu) (by intro u hu; simp only [List.mem_cons, List.not_mem_nil, or_false] at hu; subst hu; rfl) (by simp only [maxLen]; omega) (by omega) (by have := HB.size; simp; omega) ?_
  intro v1 w1 hown hg _ hob
  have hsz := hg.size
  simp at hsz
  refine h v1 w1 ⟨?_, ?_⟩ ((HB.alloc HB.size _).grown hg (by have := HB.size; simp; omega) fun k hk => (HO.1.lt k hk).1) (fun k hk hne => ⟨?_, ?_⟩) (by omega)
  · simpa using hown
  · intro c hc
    rcases List.mem_append.1 hc with hc | hc
    · exact HO.2 c hc
    · simp at hc
      rw [hc]; rfl
  · rw [hg.block k (by simp; omega) (fun e => hne e.symm)]
    exact Below.heap_alloc W _ k hk
  · rcases hob with e | e
    · rw [e]; exact hne
    · rw [e]
      intro e2
      have := Option.some.inj e2
      simp at this
      omega
/-- Bytes, one a row. -/
def rowsB (l : List UInt8) : List (List Value) := l.map fun b => [Value.int .u8 (b.toNat : Int)]
theorem rowsB_len (l : List UInt8) : (rowsB l).length = l.length := by simp [rowsB]
theorem rowsB_snoc (l : List UInt8) (x : UInt8) : rowsB l ++ [[.int .u8 (x.toNat : Int)]] = rowsB (l ++ [x]) := by simp [rowsB]
theorem rowsB_range (l : List UInt8) (f : Nat → UInt8) (k : Nat) : rowsB (l ++ (List.range k).map f) ++ [[.int .u8 ((f k).toNat : Int)]] = rowsB (l ++ (List.range (k + 1)).map f) := by
  rw [rowsB_snoc, List.range_succ, List.map_append, List.append_assoc]; rfl
theorem rowsB_rep (l : List UInt8) (q : Nat) : rowsB (l ++ List.replicate q 48) ++ [[.int .u8 48]] = rowsB (l ++ List.replicate (q + 1) 48) := by
  have h := rowsB_snoc (l ++ List.replicate q 48) 48
  rw [List.append_assoc, ← List.replicate_succ'] at h
  exact h
theorem own_cast {w0 w : World} {v : Value} {xs ys : List (List Value)} (h : Own w0 w 5 1 v xs) (e : xs = ys) : Own w0 w 5 1 v ys := e ▸ h
theorem cell_heap_eq {w w1 : World} {b j : Nat} (h : w1.heap[b]? = w.heap[b]?) : w1.cell? ⟨b, j, none⟩ = w.cell? ⟨b, j, none⟩ := World.cell?_of_block h
set_option maxRecDepth 100000 in
set_option maxHeartbeats 1000000 in
theorem c186z (w0 : World) (v : Value) (w : World) (HO : Own w0 w 5 1 v []) (HB : Below w0.heap.size w0 w) :
    Calls Tryz.prog 186 #[v, .bool false, .slice none 0 0, .int .i64 0, .int .i64 0, .int .i64 (-1), .int .u8 103, .bool true] w
      (fun e w' => ∃ v1, e = .returned v1 ∧ Own w0 w' 5 1 v1 (rowsB [48]) ∧ Below w0.heap.size w0 w') := by
  go_enter Tryz.func186, Tryz.ntmps186
  go_wp2_with (at_builtin; refine app5 v [] 48 _ _ rfl rfl rfl (by first | rfl | (change Value.slice (some ⟨_, 0, none⟩) 1 1 = _; simp)) HO HB (by simp) ?_; intro v1 w2 ho2 hb2 _ _)
  go_ret
  exact ⟨v1, rfl, ho2, hb2⟩
end Go.Proofs.YtkhgaenffnoimaaGreatDoor
/- fmtEFG of a whole number other than 0: its digits. -/
set_option linter.unusedSimpArgs false
set_option linter.unusedVariables false
namespace Go.Proofs.YtkhgaenffnoimaaGreatDoor
open Go.RowKit
attribute [local go_sem] run_store_float
set_option maxRecDepth 100000 in
set_option maxHeartbeats 2000000 in
theorem c186n (w0 : World) (v : Value) (b D nz : Nat) (f : Nat → UInt8) (w : World) (HO : Own w0 w 5 1 v []) (HB : Below w0.heap.size w0 w) (hne : v.ownBlock ≠ some b) (hb : b < w.heap.size) (hD0 : 1 ≤ D) (hD1 : D ≤ 6) (hnz : nz ≤ D)
    (hd : ∀ j, j < nz → w.cell? ⟨b, j, none⟩ = some (.int .u8 ((f j).toNat : Int))) :
    Calls Tryz.prog 186 #[v, .bool false, .slice (some ⟨b, 0, none⟩) 32 32, .int .i64 D, .int .i64 nz, .int .i64 nz, .int .u8 103, .bool true] w
      (fun e w' => ∃ v1, e = .returned v1 ∧ Own w0 w' 5 1 v1 (rowsB ([] ++ (List.range nz).map f ++ List.replicate (D - nz) 48)) ∧ Below w0.heap.size w0 w') := by
  have HH := Lib.hid HO
  have HDD := Lib.hid hd
  have HNE := Lib.hid hne
  clear HO hd hne
  have hmx : max ((nz : Int) - (D : Int)) 0 = 0 := by omega
  have hmn : min (nz : Int) (D : Int) = (nz : Int) := by omega
  have hx1 : ¬ D < nz := by omega
  have hx2 : 0 < D := by omega
  go_enter Tryz.func186, Tryz.ntmps186
  go_wp2_with fail
  go_loopw [0, 191] (fun u i wr => ∃ k : Nat, k ≤ nz ∧ i = .int .i64 k ∧ Own w0 wr 5 1 u (rowsB ([] ++ (List.range k).map f)) ∧ Below w0.heap.size w0 wr ∧ u.ownBlock ≠ some b ∧ b < wr.heap.size ∧ wr.heap[b]? = w.heap[b]?) (fun _ i _ => nz - (intOf i).toNat)
  case atStart => exact ⟨0, Nat.zero_le _, rfl, HH.out, HB, HNE.out, hb, rfl⟩
  case round =>
    obtain ⟨k, hk, rfl, ho, hbr, hnr, hbb, heq⟩ := hrel
    have HO := Lib.hid ho
    have HNR := Lib.hid hnr
    have HEQ := Lib.hid heq
    have hyb : (rowsB ([] ++ (List.range k).map f)).length ≤ 100000 := by rw [rowsB_len]; simp; omega
    clear ho hnr heq
    obtain ⟨X, hX⟩ : ∃ X, X = rowsB ([] ++ (List.range k).map f) := ⟨_, rfl⟩
    have HX := Lib.hid hX
    rw [← hX] at HO hyb
    clear hX
    by_cases hlt : k < nz
    · have hc2 : wr.cell? ⟨b, k, none⟩ = some (.int .u8 ((f k).toNat : Int)) := (cell_heap_eq HEQ.out).trans (HDD.out k hlt)
      go_wp2_with (at_builtin; refine app5 _ X ((f k).toNat : Int) _ _ rfl rfl rfl (by first | rfl | (change Value.slice (some ⟨_, 0, none⟩) 1 1 = _; simp)) HO.out hbr hyb ?_; intro v1 w2 ho2 hb2 hk2 hs2)
      have hkb := hk2 b hbb HNR.out
      go_roundw
      case rel => exact ⟨k + 1, by omega, by go_num, own_cast ho2 (by rw [HX.out]; exact rowsB_range [] f k), hb2, hkb.2, by omega, hkb.1.trans HEQ.out⟩
      case measure => simp [intOf]; omega
    · have hk' : k = nz := by omega
      subst hk'
      go_wp2_with fail
      obtain ⟨L, hL⟩ : ∃ L, L = [] ++ (List.range k).map f := ⟨_, rfl⟩
      have HL := Lib.hid hL
      have hll : Hid (L.length ≤ 7) := Lib.hid (by rw [hL]; simp; omega)
      clear hL
      go_loopw [0, 203] (fun u i w3 => ∃ q : Nat, q ≤ D - k ∧ i = .int .i64 q ∧ Own w0 w3 5 1 u (rowsB (L ++ List.replicate q 48)) ∧ Below w0.heap.size w0 w3) (fun _ i _ => D - k - (intOf i).toNat)
      case atStart => exact ⟨0, Nat.zero_le _, rfl, own_cast HO.out (by rw [HX.out, HL.out]; simp), hbr⟩
      case round =>
        obtain ⟨q, hq, rfl, ho3, hb3⟩ := hrel
        have HO3 := Lib.hid ho3
        have hzb : (rowsB (L ++ List.replicate q 48)).length ≤ 100000 := by rw [rowsB_len, List.length_append, List.length_replicate]; have := hll.out; omega
        clear ho3
        obtain ⟨Z, hZ⟩ : ∃ Z, Z = rowsB (L ++ List.replicate q 48) := ⟨_, rfl⟩
        have HZ := Lib.hid hZ
        rw [← hZ] at HO3 hzb
        clear hZ
        by_cases hlt2 : q < D - k
        · go_wp2_with (at_builtin; refine app5 _ Z 48 _ _ rfl rfl rfl (by first | rfl | (change Value.slice (some ⟨_, 0, none⟩) 1 1 = _; simp)) HO3.out hb3 hzb ?_; intro v1 w2 ho2 hb2 _ _)
          go_roundw
          case rel => exact ⟨q + 1, by omega, by go_num, own_cast ho2 (by rw [HZ.out]; exact rowsB_rep L q), hb2⟩
          case measure => simp [intOf]; omega
        · have hq' : q = D - k := by omega
          go_wp2_with fail
          go_ret
          exact ⟨_, rfl, own_cast HO3.out (by rw [HZ.out, HL.out, hq']; simp), hb3⟩
set_option maxRecDepth 100000 in
set_option maxHeartbeats 2000000 in
theorem c186p (w0 : World) (v : Value) (b D nz : Nat) (f : Nat → UInt8) (w : World) (HO : Own w0 w 5 1 v []) (HB : Below w0.heap.size w0 w) (hne : v.ownBlock ≠ some b) (hb : b < w.heap.size) (hD0 : 1 ≤ D) (hD1 : D ≤ 6) (hnz : nz ≤ D)
    (hd : ∀ j, j < nz → w.cell? ⟨b, j, none⟩ = some (.int .u8 ((f j).toNat : Int))) :
    Calls Tryz.prog 186 #[v, .bool true, .slice (some ⟨b, 0, none⟩) 32 32, .int .i64 D, .int .i64 nz, .int .i64 nz, .int .u8 103, .bool true] w
      (fun e w' => ∃ v1, e = .returned v1 ∧ Own w0 w' 5 1 v1 (rowsB ([45] ++ (List.range nz).map f ++ List.replicate (D - nz) 48)) ∧ Below w0.heap.size w0 w') := by
  have HH := Lib.hid HO
  have HDD := Lib.hid hd
  have HNE := Lib.hid hne
  clear HO hd hne
  have hmx : max ((nz : Int) - (D : Int)) 0 = 0 := by omega
  have hmn : min (nz : Int) (D : Int) = (nz : Int) := by omega
  have hx1 : ¬ D < nz := by omega
  have hx2 : 0 < D := by omega
  go_enter Tryz.func186, Tryz.ntmps186
  go_wp2_with (at_builtin; refine app5 v [] 45 _ _ rfl rfl rfl (by first | rfl | (change Value.slice (some ⟨_, 0, none⟩) 1 1 = _; simp)) HH.out HB (by simp) ?_; intro va wa hoa hba hka hsa)
  have hkab := hka b hb HNE.out
  go_loopw [0, 191] (fun u i wr => ∃ k : Nat, k ≤ nz ∧ i = .int .i64 k ∧ Own w0 wr 5 1 u (rowsB ([45] ++ (List.range k).map f)) ∧ Below w0.heap.size w0 wr ∧ u.ownBlock ≠ some b ∧ b < wr.heap.size ∧ wr.heap[b]? = w.heap[b]?) (fun _ i _ => nz - (intOf i).toNat)
  case atStart => exact ⟨0, Nat.zero_le _, rfl, hoa, hba, hkab.2, by omega, hkab.1⟩
  case round =>
    obtain ⟨k, hk, rfl, ho, hbr, hnr, hbb, heq⟩ := hrel
    have HO := Lib.hid ho
    have HNR := Lib.hid hnr
    have HEQ := Lib.hid heq
    have hyb : (rowsB ([45] ++ (List.range k).map f)).length ≤ 100000 := by rw [rowsB_len]; simp; omega
    clear ho hnr heq
    obtain ⟨X, hX⟩ : ∃ X, X = rowsB ([45] ++ (List.range k).map f) := ⟨_, rfl⟩
    have HX := Lib.hid hX
    rw [← hX] at HO hyb
    clear hX
    by_cases hlt : k < nz
    · have hc2 : wr.cell? ⟨b, k, none⟩ = some (.int .u8 ((f k).toNat : Int)) := (cell_heap_eq HEQ.out).trans (HDD.out k hlt)
      go_wp2_with (at_builtin; refine app5 _ X ((f k).toNat : Int) _ _ rfl rfl rfl (by first | rfl | (change Value.slice (some ⟨_, 0, none⟩) 1 1 = _; simp)) HO.out hbr hyb ?_; intro v1 w2 ho2 hb2 hk2 hs2)
      have hkb := hk2 b hbb HNR.out
      go_roundw
      case rel => exact ⟨k + 1, by omega, by go_num, own_cast ho2 (by rw [HX.out]; exact rowsB_range [45] f k), hb2, hkb.2, by omega, hkb.1.trans HEQ.out⟩
      case measure => simp [intOf]; omega
    · have hk' : k = nz := by omega
      subst hk'
      go_wp2_with fail
      obtain ⟨L, hL⟩ : ∃ L, L = [45] ++ (List.range k).map f := ⟨_, rfl⟩
      have HL := Lib.hid hL
      have hll : Hid (L.length ≤ 7) := Lib.hid (by rw [hL]; simp; omega)
      clear hL
      go_loopw [0, 203] (fun u i w3 => ∃ q : Nat, q ≤ D - k ∧ i = .int .i64 q ∧ Own w0 w3 5 1 u (rowsB (L ++ List.replicate q 48)) ∧ Below w0.heap.size w0 w3) (fun _ i _ => D - k - (intOf i).toNat)
      case atStart => exact ⟨0, Nat.zero_le _, rfl, own_cast HO.out (by rw [HX.out, HL.out]; simp), hbr⟩
      case round =>
        obtain ⟨q, hq, rfl, ho3, hb3⟩ := hrel
        have HO3 := Lib.hid ho3
        have hzb : (rowsB (L ++ List.replicate q 48)).length ≤ 100000 := by rw [rowsB_len, List.length_append, List.length_replicate]; have := hll.out; omega
        clear ho3
        obtain ⟨Z, hZ⟩ : ∃ Z, Z = rowsB (L ++ List.replicate q 48) := ⟨_, rfl⟩
        have HZ := Lib.hid hZ
        rw [← hZ] at HO3 hzb
        clear hZ
        by_cases hlt2 : q < D - k
        · go_wp2_with (at_builtin; refine app5 _ Z 48 _ _ rfl rfl rfl (by first | rfl | (change Value.slice (some ⟨_, 0, none⟩) 1 1 = _; simp)) HO3.out hb3 hzb ?_; intro v1 w2 ho2 hb2 _ _)
          go_roundw
          case rel => exact ⟨q + 1, by omega, by go_num, own_cast ho2 (by rw [HZ.out]; exact rowsB_rep L q), hb2⟩
          case measure => simp [intOf]; omega
        · have hq' : q = D - k := by omega
          go_wp2_with fail
          go_ret
          exact ⟨_, rfl, own_cast HO3.out (by rw [HZ.out, HL.out, hq']; simp), hb3⟩
end Go.Proofs.YtkhgaenffnoimaaGreatDoor
