/- The kit's contracts of some library functions (bits.Len64, bits.Mul64, the numerals, bytes.Buffer), laid at this program's numbers (written by the kit's lay-shelf and lay-plain). -/
import Derived.Shelf.Strconv.Itoa0
import Derived.Shelf.Strconv.Itoa1
import Derived.Shelf.LaysM
import Derived.Shelf.Strconv.Itoa2
import Derived.Shelf.Bytes.String
import Derived.Shelf.Bytes.BufferK
import Derived.Shelf.Bits.Mul64
import Derived.Test.YtpahhejkpdkjmaaGreatDoorProg
namespace Go.Proofs
open Go.Shelf
def Tryz.lays129_ren : Go.Shelf.Ren := ⟨fun | 129 => 244 | n => n, fun | 53 => 185 | 3 => 3 | 4 => 4 | 46 => 207 | 5 => 5 | 9 => 9 | n => n, fun | n => n⟩
theorem Tryz.lays129 : Go.Proofs.Lays.n129 Tryz.prog Tryz.lays129_ren := {
  mixed := by kernel_rfl
  f129 := Tryz.func244.trans (congrArg some (by kernel_rfl))
  t3 := Tryz.underlying3
  a3 := Tryz.isAgg3
  z3 := Tryz.sizeOf3
  v3 := Tryz.zeroValue3
  t4 := Tryz.underlying4
  a4 := Tryz.isAgg4
  z4 := Tryz.sizeOf4
  v4 := Tryz.zeroValue4
  t5 := Tryz.underlying5
  a5 := Tryz.isAgg5
  z5 := Tryz.sizeOf5
  v5 := Tryz.zeroValue5
  t9 := Tryz.underlying9
  a9 := Tryz.isAgg9
  z9 := Tryz.sizeOf9
  v9 := Tryz.zeroValue9
  t46 := Tryz.underlying207
  a46 := Tryz.isAgg207
  z46 := Tryz.sizeOf207
  v46 := Tryz.zeroValue207
  t53 := Tryz.underlying185
  a53 := Tryz.isAgg185
  z53 := Tryz.sizeOf185
  v53 := Tryz.zeroValue185 }
theorem Tryz.bits_Len64 (x : Int) (w : World) (h0 : 0 ≤ x) (h1 : x ≤ 18446744073709551615) :
    Calls Tryz.prog 244 #[.int .u64 x] w fun e w' => e = .returned (.int .i64 (Lib.bitLen x.toNat)) ∧ w' = w := Any.bits_Len64 Tryz.lays129 x w h0 h1
def Tryz.laysM284_ren : Go.Shelf.Ren := ⟨fun | 284 => 247 | 129 => 244 | 317 => 248 | 318 => 267 | n => n, fun | 53 => 185 | 3 => 3 | 212 => 218 | 0 => 0 | 4 => 4 | 46 => 207 | 5 => 5 | 9 => 9 | n => n, fun | 17 => 3 | n => n⟩
theorem Tryz.laysM284 : Go.Proofs.LaysM.n284 Tryz.prog Tryz.laysM284_ren := {
  mixed := by kernel_rfl
  f129 := Tryz.func244.trans (congrArg some (by kernel_rfl))
  f284 := Tryz.func247.trans (congrArg some (by kernel_rfl))
  f317 := Tryz.func248.trans (congrArg some (by kernel_rfl))
  f318 := Tryz.func267.trans (congrArg some (by kernel_rfl))
  t0 := Tryz.underlying0
  a0 := Tryz.isAgg0
  z0 := Tryz.sizeOf0
  v0 := Tryz.zeroValue0
  t3 := Tryz.underlying3
  a3 := Tryz.isAgg3
  z3 := Tryz.sizeOf3
  v3 := Tryz.zeroValue3
  t4 := Tryz.underlying4
  a4 := Tryz.isAgg4
  z4 := Tryz.sizeOf4
  v4 := Tryz.zeroValue4
  t5 := Tryz.underlying5
  a5 := Tryz.isAgg5
  z5 := Tryz.sizeOf5
  v5 := Tryz.zeroValue5
  t9 := Tryz.underlying9
  a9 := Tryz.isAgg9
  z9 := Tryz.sizeOf9
  v9 := Tryz.zeroValue9
  t46 := Tryz.underlying207
  a46 := Tryz.isAgg207
  z46 := Tryz.sizeOf207
  v46 := Tryz.zeroValue207
  t53 := Tryz.underlying185
  a53 := Tryz.isAgg185
  z53 := Tryz.sizeOf185
  v53 := Tryz.zeroValue185
  t212 := Tryz.underlying218
  a212 := Tryz.isAgg218
  z212 := Tryz.sizeOf218
  v212 := Tryz.zeroValue218
  g17 := by kernel_rfl
  i0 := by kernel_rfl
  i3 := by kernel_rfl
  i4 := by kernel_rfl
  i5 := by kernel_rfl
  i9 := by kernel_rfl
  i46 := by kernel_rfl
  i53 := by kernel_rfl
  i212 := by kernel_rfl
  m17 := by kernel_rfl }
open Go.Lib in
theorem Tryz.internal_strconv_numDigits (u : Nat) (h1 : 1 ≤ u) (h2 : u < 18446744073709551616) (w : World) (htab : Lib.TabIs Tryz.prog w "internal/strconv.uint64pow10" .u64 Lib.pow10Tab) :
    Calls Tryz.prog 247 #[.int .u64 u] w fun e w' => e = .returned (.int .i64 (Lib.nDigits u)) ∧ w' = w := Any.internal_strconv_numDigits Tryz.laysM284 u h1 h2 w htab
def Tryz.lays285_ren : Go.Shelf.Ren := ⟨fun | 285 => 266 | n => n, fun | 37 => 117 | 53 => 185 | 3 => 3 | 4 => 4 | 51 => 186 | 9 => 9 | 5 => 5 | 0 => 0 | n => n, fun | n => n⟩
theorem Tryz.lays285 : Go.Proofs.Lays.n285 Tryz.prog Tryz.lays285_ren := {
  mixed := by kernel_rfl
  f285 := Tryz.func266.trans (congrArg some (by kernel_rfl))
  t0 := Tryz.underlying0
  a0 := Tryz.isAgg0
  z0 := Tryz.sizeOf0
  v0 := Tryz.zeroValue0
  t3 := Tryz.underlying3
  a3 := Tryz.isAgg3
  z3 := Tryz.sizeOf3
  v3 := Tryz.zeroValue3
  t4 := Tryz.underlying4
  a4 := Tryz.isAgg4
  z4 := Tryz.sizeOf4
  v4 := Tryz.zeroValue4
  t5 := Tryz.underlying5
  a5 := Tryz.isAgg5
  z5 := Tryz.sizeOf5
  v5 := Tryz.zeroValue5
  t9 := Tryz.underlying9
  a9 := Tryz.isAgg9
  z9 := Tryz.sizeOf9
  v9 := Tryz.zeroValue9
  t37 := Tryz.underlying117
  a37 := Tryz.isAgg117
  z37 := Tryz.sizeOf117
  v37 := Tryz.zeroValue117
  t51 := Tryz.underlying186
  a51 := Tryz.isAgg186
  z51 := Tryz.sizeOf186
  v51 := Tryz.zeroValue186
  t53 := Tryz.underlying185
  a53 := Tryz.isAgg185
  z53 := Tryz.sizeOf185
  v53 := Tryz.zeroValue185 }
open Go.RowKit Go.Sort Go.Lib in
theorem Tryz.internal_strconv_formatBase10 (blk off cap : Nat) (u : Nat) (d : Array UInt8) (w : World) (hH : Holds (fun (b : UInt8) => Value.int .u8 (b.toNat : Int)) w blk off d) (hu : u < 10 ^ d.size) (hu64 : u < 18446744073709551616) (hsz : d.size < 4611686018427387904) :
    Calls Tryz.prog 266 #[.slice (some ⟨blk, off, none⟩) d.size cap, .int .u64 u] w fun e w' =>
      e = .returned (.tuple #[]) ∧ ∃ (n v' : Nat) (dk : Array UInt8), w' = (putRow (fun (b : UInt8) => Value.int .u8 (b.toNat : Int)) w blk off dk).drewN n ∧ FmtInv d.size u 0 v' dk := Any.internal_strconv_formatBase10 Tryz.lays285 blk off cap u d w hH hu hu64 hsz
def Tryz.laysM182_ren : Go.Shelf.Ren := ⟨fun | 182 => 142 | n => n, fun | 130 => 167 | 9 => 9 | 4 => 4 | 0 => 0 | 93 => 121 | 37 => 117 | 3 => 3 | 91 => 119 | 5 => 5 | n => n, fun | n => n⟩
theorem Tryz.laysM182 : Go.Proofs.LaysM.n182 Tryz.prog Tryz.laysM182_ren := {
  mixed := by kernel_rfl
  f182 := Tryz.func142.trans (congrArg some (by kernel_rfl))
  t0 := Tryz.underlying0
  a0 := Tryz.isAgg0
  z0 := Tryz.sizeOf0
  v0 := Tryz.zeroValue0
  t3 := Tryz.underlying3
  a3 := Tryz.isAgg3
  z3 := Tryz.sizeOf3
  v3 := Tryz.zeroValue3
  t4 := Tryz.underlying4
  a4 := Tryz.isAgg4
  z4 := Tryz.sizeOf4
  v4 := Tryz.zeroValue4
  t9 := Tryz.underlying9
  a9 := Tryz.isAgg9
  z9 := Tryz.sizeOf9
  v9 := Tryz.zeroValue9
  t37 := Tryz.underlying117
  a37 := Tryz.isAgg117
  z37 := Tryz.sizeOf117
  v37 := Tryz.zeroValue117
  t93 := Tryz.underlying121
  a93 := Tryz.isAgg121
  z93 := Tryz.sizeOf121
  v93 := Tryz.zeroValue121
  t130 := Tryz.underlying167
  a130 := Tryz.isAgg167
  z130 := Tryz.sizeOf167
  v130 := Tryz.zeroValue167
  t5 := Tryz.underlying5
  a5 := Tryz.isAgg5
  z5 := Tryz.sizeOf5
  v5 := Tryz.zeroValue5
  t91 := Tryz.underlying119
  a91 := Tryz.isAgg119
  z91 := Tryz.sizeOf119
  v91 := Tryz.zeroValue119
  i0 := by kernel_rfl
  i3 := by kernel_rfl
  i4 := by kernel_rfl
  i5 := by kernel_rfl
  i9 := by kernel_rfl
  i37 := by kernel_rfl
  i91 := by kernel_rfl
  i93 := by kernel_rfl
  i130 := by kernel_rfl }
open Go.RowKit in
theorem Tryz.Buffer_String (B b : Nat) (l : List UInt8) (w : World) (h : Lib.IsBuffer 121 5 B b (Lib.byteCells l) w) :
    Calls Tryz.prog 142 #[.pointer (some ⟨b, 0, none⟩)] w fun e w' => e = .returned (.string ⟨l.toArray⟩) ∧ ∃ n, w' = w.drewN n := Any.Buffer_String Tryz.laysM182 B b l w h
def Tryz.laysM178_ren : Go.Shelf.Ren := ⟨fun | 178 => 141 | 251 => 221 | 252 => 222 | 181 => 234 | 184 => 235 | 290 => 236 | 324 => 254 | n => n, fun | 130 => 167 | 9 => 9 | 3 => 3 | 75 => 123 | 0 => 0 | 93 => 121 | 91 => 119 | 131 => 168 | 4 => 4 | 37 => 117 | 20 => 20 | 80 => 84 | 5 => 5 | n => n, fun | 14 => 1 | n => n⟩
theorem Tryz.laysM178 : Go.Proofs.LaysM.n178 Tryz.prog Tryz.laysM178_ren := {
  mixed := by kernel_rfl
  f178 := Tryz.func141.trans (congrArg some (by kernel_rfl))
  f181 := Tryz.func234.trans (congrArg some (by kernel_rfl))
  f184 := Tryz.func235.trans (congrArg some (by kernel_rfl))
  f251 := Tryz.func221.trans (congrArg some (by kernel_rfl))
  f252 := Tryz.func222.trans (congrArg some (by kernel_rfl))
  f290 := Tryz.func236.trans (congrArg some (by kernel_rfl))
  f324 := Tryz.func254.trans (congrArg some (by kernel_rfl))
  t0 := Tryz.underlying0
  a0 := Tryz.isAgg0
  z0 := Tryz.sizeOf0
  v0 := Tryz.zeroValue0
  t3 := Tryz.underlying3
  a3 := Tryz.isAgg3
  z3 := Tryz.sizeOf3
  v3 := Tryz.zeroValue3
  t4 := Tryz.underlying4
  a4 := Tryz.isAgg4
  z4 := Tryz.sizeOf4
  v4 := Tryz.zeroValue4
  t9 := Tryz.underlying9
  a9 := Tryz.isAgg9
  z9 := Tryz.sizeOf9
  v9 := Tryz.zeroValue9
  t20 := Tryz.underlying20
  a20 := Tryz.isAgg20
  z20 := Tryz.sizeOf20
  v20 := Tryz.zeroValue20
  t37 := Tryz.underlying117
  a37 := Tryz.isAgg117
  z37 := Tryz.sizeOf117
  v37 := Tryz.zeroValue117
  t75 := Tryz.underlying123
  a75 := Tryz.isAgg123
  z75 := Tryz.sizeOf123
  v75 := Tryz.zeroValue123
  t91 := Tryz.underlying119
  a91 := Tryz.isAgg119
  z91 := Tryz.sizeOf119
  v91 := Tryz.zeroValue119
  t93 := Tryz.underlying121
  a93 := Tryz.isAgg121
  z93 := Tryz.sizeOf121
  v93 := Tryz.zeroValue121
  t130 := Tryz.underlying167
  a130 := Tryz.isAgg167
  z130 := Tryz.sizeOf167
  v130 := Tryz.zeroValue167
  t131 := Tryz.underlying168
  a131 := Tryz.isAgg168
  z131 := Tryz.sizeOf168
  v131 := Tryz.zeroValue168
  g14 := by kernel_rfl
  t5 := Tryz.underlying5
  a5 := Tryz.isAgg5
  z5 := Tryz.sizeOf5
  v5 := Tryz.zeroValue5
  t80 := Tryz.underlying84
  a80 := Tryz.isAgg84
  z80 := Tryz.sizeOf84
  v80 := Tryz.zeroValue84
  i0 := by kernel_rfl
  i3 := by kernel_rfl
  i4 := by kernel_rfl
  i5 := by kernel_rfl
  i9 := by kernel_rfl
  i20 := by kernel_rfl
  i37 := by kernel_rfl
  i75 := by kernel_rfl
  i80 := by kernel_rfl
  i91 := by kernel_rfl
  i93 := by kernel_rfl
  i130 := by kernel_rfl
  i131 := by kernel_rfl
  m14 := by kernel_rfl }
open Go.RowKit in
theorem Tryz.Buffer_WriteString_k (B b : Nat) (bs : List Value) (s : ByteArray) (w : World) (h : Lib.IsBuffer 121 5 B b bs w) (hBw : B ≤ w.heap.size) (h1 : ∀ v ∈ bs, v.oneCell' = true) (hlim : bs.length + s.size ≤ 140737488355328) :
    Calls Tryz.prog 141 #[.pointer (some ⟨b, 0, none⟩), .string s] w fun e w' => e = .returned (.tuple #[.int .i64 s.size, .nilIface]) ∧ Lib.IsBuffer 121 5 B b (bs ++ Lib.byteCells s.data.toList) w' ∧ Below B w w' ∧ Lib.OthersKept 5 (some b) w w' := Any.Buffer_WriteString_k Tryz.laysM178 B b bs s w h hBw h1 hlim
def Tryz.lays264_ren : Go.Shelf.Ren := ⟨fun | 264 => 278 | n => n, fun | 53 => 185 | 46 => 207 | n => n, fun | n => n⟩
theorem Tryz.lays264 : Go.Proofs.Lays.n264 Tryz.prog Tryz.lays264_ren := {
  mixed := by kernel_rfl
  f264 := Tryz.func278.trans (congrArg some (by kernel_rfl))
  t46 := Tryz.underlying207
  a46 := Tryz.isAgg207
  z46 := Tryz.sizeOf207
  v46 := Tryz.zeroValue207
  t53 := Tryz.underlying185
  a53 := Tryz.isAgg185
  z53 := Tryz.sizeOf185
  v53 := Tryz.zeroValue185 }
open Go.RowKit Go.Lib in
theorem Tryz.bits_Mul64 (x y : Nat) (hx : x < 18446744073709551616) (hy : y < 18446744073709551616) (w : World) :
    Calls Tryz.prog 278 #[.int .u64 x, .int .u64 y] w fun e w' => e = .returned (.tuple #[.int .u64 ((x * y / 18446744073709551616 : Nat) : Int), .int .u64 ((x * y % 18446744073709551616 : Nat) : Int)]) ∧ w' = w := Any.bits_Mul64 Tryz.lays264 x y hx hy w
end Go.Proofs
