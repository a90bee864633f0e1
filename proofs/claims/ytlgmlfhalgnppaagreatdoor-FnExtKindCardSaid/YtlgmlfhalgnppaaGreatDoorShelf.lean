/-
  DERIVED: THE SHELF's CONTRACTS AT THIS DUMP, IN PLAIN WORDS (tools/lay-plain.mjs out of 'TryzShelf.lean', which tools/lay-shelf.mjs wrote): THE SAME DECLARATIONS UNDER THE SAME NAMES: 'import', 'namespace', 'open', 'def', 'theorem' AND NOTHING ELSE: no command of the shelf's: FOR A HAND-IN. Each laying: the table of numbers ('.._ren') and one theorem, a field a fact of the dump's own or the kernel's comparison; each contract: ONE APPLICATION.
-/
import Derived.Shelf.Utf8.AppendRunePlain
import Derived.Shelf.Strconv.Itoa0
import Derived.Shelf.Strconv.Itoa1
import Derived.Shelf.LaysM
import Derived.Shelf.Strconv.Itoa2
import Derived.Shelf.Strconv.Itoa3
import Derived.Shelf.Strconv.Itoa4
import Derived.Shelf.Bytes.Len
import Derived.Shelf.Bytes.TryGrow
import Derived.Shelf.Bytes.GrowSliceCatch
import Derived.Shelf.Bytes.GrowSlice
import Derived.Shelf.Bytes.String
import Derived.Shelf.Bytes.GrowRow0Kept
import Derived.Shelf.Bytes.GrowRowKept
import Derived.Shelf.Bytes.GrowNilKept
import Derived.Shelf.Bytes.GrowKept
import Derived.Shelf.Bytes.WriteByteKept
import Derived.Shelf.Bytes.ResetKept
import Derived.Shelf.Bytes.BufferK
import Derived.Shelf.Bytes.GrowRow0Own
import Derived.Shelf.Bytes.GrowRowOwn
import Derived.Shelf.Bytes.GrowNilOwn
import Derived.Shelf.Bytes.GrowOwn
import Derived.Ground.MzProg
import Derived.Shelf.Wr.WriteRuneAscii
import Derived.Shelf.Wr.WriteRune
import Derived.Shelf.Bits.Mul64
import Derived.Test.YtlgmlfhalgnppaaGreatDoorProg
namespace Go.Proofs
open Go.Shelf
def Tryz.lays129_ren : Go.Shelf.Ren := ⟨fun | 129 => 73 | n => n, fun | 53 => 22 | 3 => 3 | 4 => 4 | 46 => 66 | 5 => 5 | 9 => 9 | n => n, fun | n => n⟩
theorem Tryz.lays129 : Go.Proofs.Lays.n129 Tryz.prog Tryz.lays129_ren := {
  mixed := by kernel_rfl
  f129 := Tryz.func73.trans (congrArg some (by kernel_rfl))
  t3 := Tryz.underlying3
  a3 := Tryz.isAgg3
  z3 := Tryz.sizeOf3
  v3 := Tryz.zeroValue3
  t4 := Tryz.underlying4
  a4 := Tryz.isAgg4
  z4 := Tryz.sizeOf4
  v4 := Tryz.zeroValue4
  t5 := Tryz.underlying5
  a5 := Tryz.isAgg5
  z5 := Tryz.sizeOf5
  v5 := Tryz.zeroValue5
  t9 := Tryz.underlying9
  a9 := Tryz.isAgg9
  z9 := Tryz.sizeOf9
  v9 := Tryz.zeroValue9
  t46 := Tryz.underlying66
  a46 := Tryz.isAgg66
  z46 := Tryz.sizeOf66
  v46 := Tryz.zeroValue66
  t53 := Tryz.underlying22
  a53 := Tryz.isAgg22
  z53 := Tryz.sizeOf22
  v53 := Tryz.zeroValue22 }
/-- bits.Len64: "Len64 returns the minimum number of bits required to represent x; the result is 0 for x == 0.": IT RETURNS 'Lib.bitLen x'; the world is as it was. ('h0', 'h1': x is a uint64.) (LAID: no walk: one application.) -/
theorem Tryz.bits_Len64 (x : Int) (w : World) (h0 : 0 ≤ x) (h1 : x ≤ 18446744073709551615) :
    Calls Tryz.prog 73 #[.int .u64 x] w fun e w' => e = .returned (.int .i64 (Lib.bitLen x.toNat)) ∧ w' = w := Any.bits_Len64 Tryz.lays129 x w h0 h1
def Tryz.lays318_ren : Go.Shelf.Ren := ⟨fun | 318 => 74 | n => n, fun | 3 => 3 | 4 => 4 | n => n, fun | n => n⟩
theorem Tryz.lays318 : Go.Proofs.Lays.n318 Tryz.prog Tryz.lays318_ren := {
  mixed := by kernel_rfl
  f318 := Tryz.func74.trans (congrArg some (by kernel_rfl))
  t3 := Tryz.underlying3
  a3 := Tryz.isAgg3
  z3 := Tryz.sizeOf3
  v3 := Tryz.zeroValue3
  t4 := Tryz.underlying4
  a4 := Tryz.isAgg4
  z4 := Tryz.sizeOf4
  v4 := Tryz.zeroValue4 }
open Go.Lib in
/-- internal/strconv.bool2: "bool2 converts b to an integer: 1 for true, 0 for false." The world is as it was. (LAID: no walk: one application.) -/
theorem Tryz.internal_strconv_bool2_int (b : Bool) (w : World) :
    Calls Tryz.prog 74 #[.bool b] w fun e w' => e = .returned (.int .i64 (if b then 1 else 0)) ∧ w' = w := Any.internal_strconv_bool2_int Tryz.lays318 b w
def Tryz.lays283_ren : Go.Shelf.Ren := ⟨fun | 283 => 62 | n => n, fun | 3 => 3 | 9 => 9 | 4 => 4 | n => n, fun | n => n⟩
theorem Tryz.lays283 : Go.Proofs.Lays.n283 Tryz.prog Tryz.lays283_ren := {
  mixed := by kernel_rfl
  f283 := Tryz.func62.trans (congrArg some (by kernel_rfl))
  t3 := Tryz.underlying3
  a3 := Tryz.isAgg3
  z3 := Tryz.sizeOf3
  v3 := Tryz.zeroValue3
  t4 := Tryz.underlying4
  a4 := Tryz.isAgg4
  z4 := Tryz.sizeOf4
  v4 := Tryz.zeroValue4
  t9 := Tryz.underlying9
  a9 := Tryz.isAgg9
  z9 := Tryz.sizeOf9
  v9 := Tryz.zeroValue9 }
open Go.Lib in
/-- internal/strconv.small: "small returns the string for an i with 0 <= i < nSmalls.": i's decimal numeral. The world is as it was. (LAID: no walk: one application.) -/
theorem Tryz.internal_strconv_small (i : Nat) (h : i < 100) (w : World) :
    Calls Tryz.prog 62 #[.int .i64 i] w fun e w' => e = .returned (.string ⟨(Lib.decDigits i).toArray⟩) ∧ w' = w := Any.internal_strconv_small Tryz.lays283 i h w
def Tryz.laysM284_ren : Go.Shelf.Ren := ⟨fun | 284 => 63 | 129 => 73 | 317 => 72 | 318 => 74 | n => n, fun | 53 => 22 | 3 => 3 | 212 => 119 | 0 => 0 | 4 => 4 | 46 => 66 | 5 => 5 | 9 => 9 | n => n, fun | 17 => 2 | n => n⟩
theorem Tryz.laysM284 : Go.Proofs.LaysM.n284 Tryz.prog Tryz.laysM284_ren := {
  mixed := by kernel_rfl
  f129 := Tryz.func73.trans (congrArg some (by kernel_rfl))
  f284 := Tryz.func63.trans (congrArg some (by kernel_rfl))
  f317 := Tryz.func72.trans (congrArg some (by kernel_rfl))
  f318 := Tryz.func74.trans (congrArg some (by kernel_rfl))
  t0 := Tryz.underlying0
  a0 := Tryz.isAgg0
  z0 := Tryz.sizeOf0
  v0 := Tryz.zeroValue0
  t3 := Tryz.underlying3
  a3 := Tryz.isAgg3
  z3 := Tryz.sizeOf3
  v3 := Tryz.zeroValue3
  t4 := Tryz.underlying4
  a4 := Tryz.isAgg4
  z4 := Tryz.sizeOf4
  v4 := Tryz.zeroValue4
  t5 := Tryz.underlying5
  a5 := Tryz.isAgg5
  z5 := Tryz.sizeOf5
  v5 := Tryz.zeroValue5
  t9 := Tryz.underlying9
  a9 := Tryz.isAgg9
  z9 := Tryz.sizeOf9
  v9 := Tryz.zeroValue9
  t46 := Tryz.underlying66
  a46 := Tryz.isAgg66
  z46 := Tryz.sizeOf66
  v46 := Tryz.zeroValue66
  t53 := Tryz.underlying22
  a53 := Tryz.isAgg22
  z53 := Tryz.sizeOf22
  v53 := Tryz.zeroValue22
  t212 := Tryz.underlying119
  a212 := Tryz.isAgg119
  z212 := Tryz.sizeOf119
  v212 := Tryz.zeroValue119
  g17 := by kernel_rfl
  i0 := by kernel_rfl
  i3 := by kernel_rfl
  i4 := by kernel_rfl
  i5 := by kernel_rfl
  i9 := by kernel_rfl
  i46 := by kernel_rfl
  i53 := by kernel_rfl
  i212 := by kernel_rfl
  m17 := by kernel_rfl }
open Go.Lib in
/-- internal/strconv.numDigits, at a d that is not 0: THE NUMBER OF d's DECIMAL DIGITS. The world is as it was. (LAID: no walk: one application.) -/
theorem Tryz.internal_strconv_numDigits (u : Nat) (h1 : 1 ≤ u) (h2 : u < 18446744073709551616) (w : World) (htab : Lib.TabIs Tryz.prog w "internal/strconv.uint64pow10" .u64 Lib.pow10Tab) :
    Calls Tryz.prog 63 #[.int .u64 u] w fun e w' => e = .returned (.int .i64 (Lib.nDigits u)) ∧ w' = w := Any.internal_strconv_numDigits Tryz.laysM284 u h1 h2 w htab
def Tryz.lays285_ren : Go.Shelf.Ren := ⟨fun | 285 => 64 | n => n, fun | 37 => 23 | 53 => 22 | 3 => 3 | 4 => 4 | 51 => 120 | 9 => 9 | 5 => 5 | 0 => 0 | n => n, fun | n => n⟩
theorem Tryz.lays285 : Go.Proofs.Lays.n285 Tryz.prog Tryz.lays285_ren := {
  mixed := by kernel_rfl
  f285 := Tryz.func64.trans (congrArg some (by kernel_rfl))
  t0 := Tryz.underlying0
  a0 := Tryz.isAgg0
  z0 := Tryz.sizeOf0
  v0 := Tryz.zeroValue0
  t3 := Tryz.underlying3
  a3 := Tryz.isAgg3
  z3 := Tryz.sizeOf3
  v3 := Tryz.zeroValue3
  t4 := Tryz.underlying4
  a4 := Tryz.isAgg4
  z4 := Tryz.sizeOf4
  v4 := Tryz.zeroValue4
  t5 := Tryz.underlying5
  a5 := Tryz.isAgg5
  z5 := Tryz.sizeOf5
  v5 := Tryz.zeroValue5
  t9 := Tryz.underlying9
  a9 := Tryz.isAgg9
  z9 := Tryz.sizeOf9
  v9 := Tryz.zeroValue9
  t37 := Tryz.underlying23
  a37 := Tryz.isAgg23
  z37 := Tryz.sizeOf23
  v37 := Tryz.zeroValue23
  t51 := Tryz.underlying120
  a51 := Tryz.isAgg120
  z51 := Tryz.sizeOf120
  v51 := Tryz.zeroValue120
  t53 := Tryz.underlying22
  a53 := Tryz.isAgg22
  z53 := Tryz.sizeOf22
  v53 := Tryz.zeroValue22 }
open Go.RowKit Go.Sort Go.Lib in
/-- internal/strconv.formatBase10: "formatBase10 formats the decimal representation of u into a. The caller is responsible for ensuring that a is big enough to hold u. If a is too big, leading zeros will be filled in as needed.": THE ROW HOLDS u's DIGITS ('FmtInv .. 0 ..': every place t holds 'dg u (len - 1 - t)'); all else is as it was but for the count of draws. (LAID: no walk: one application.) -/
theorem Tryz.internal_strconv_formatBase10 (blk off cap : Nat) (u : Nat) (d : Array UInt8) (w : World) (hH : Holds (fun (b : UInt8) => Value.int .u8 (b.toNat : Int)) w blk off d) (hu : u < 10 ^ d.size) (hu64 : u < 18446744073709551616) (hsz : d.size < 4611686018427387904) :
    Calls Tryz.prog 64 #[.slice (some ⟨blk, off, none⟩) d.size cap, .int .u64 u] w fun e w' =>
      e = .returned (.tuple #[]) ∧ ∃ (n v' : Nat) (dk : Array UInt8), w' = (putRow (fun (b : UInt8) => Value.int .u8 (b.toNat : Int)) w blk off dk).drewN n ∧ FmtInv d.size u 0 v' dk := Any.internal_strconv_formatBase10 Tryz.lays285 blk off cap u d w hH hu hu64 hsz
def Tryz.laysM173_ren : Go.Shelf.Ren := ⟨fun | 173 => 26 | 246 => 46 | 283 => 62 | 284 => 63 | 285 => 64 | 286 => 65 | 129 => 73 | 317 => 72 | 318 => 74 | 319 => 75 | 320 => 76 | 337 => 94 | 338 => 95 | n => n, fun | 2 => 2 | 3 => 3 | 9 => 9 | 4 => 4 | 171 => 103 | 0 => 0 | 53 => 22 | 37 => 23 | 5 => 5 | 173 => 106 | 212 => 119 | 51 => 120 | 20 => 20 | 213 => 121 | 46 => 66 | 232 => 144 | 233 => 201 | n => n, fun | 17 => 2 | 18 => 5 | 19 => 6 | n => n⟩
theorem Tryz.laysM173 : Go.Proofs.LaysM.n173 Tryz.prog Tryz.laysM173_ren := {
  mixed := by kernel_rfl
  f129 := Tryz.func73.trans (congrArg some (by kernel_rfl))
  f173 := Tryz.func26.trans (congrArg some (by kernel_rfl))
  f246 := Tryz.func46.trans (congrArg some (by kernel_rfl))
  f283 := Tryz.func62.trans (congrArg some (by kernel_rfl))
  f284 := Tryz.func63.trans (congrArg some (by kernel_rfl))
  f285 := Tryz.func64.trans (congrArg some (by kernel_rfl))
  f286 := Tryz.func65.trans (congrArg some (by kernel_rfl))
  f317 := Tryz.func72.trans (congrArg some (by kernel_rfl))
  f318 := Tryz.func74.trans (congrArg some (by kernel_rfl))
  f319 := Tryz.func75.trans (congrArg some (by kernel_rfl))
  f320 := Tryz.func76.trans (congrArg some (by kernel_rfl))
  f337 := Tryz.func94.trans (congrArg some (by kernel_rfl))
  f338 := Tryz.func95.trans (congrArg some (by kernel_rfl))
  t0 := Tryz.underlying0
  a0 := Tryz.isAgg0
  z0 := Tryz.sizeOf0
  v0 := Tryz.zeroValue0
  t2 := Tryz.underlying2
  a2 := Tryz.isAgg2
  z2 := Tryz.sizeOf2
  v2 := Tryz.zeroValue2
  t3 := Tryz.underlying3
  a3 := Tryz.isAgg3
  z3 := Tryz.sizeOf3
  v3 := Tryz.zeroValue3
  t4 := Tryz.underlying4
  a4 := Tryz.isAgg4
  z4 := Tryz.sizeOf4
  v4 := Tryz.zeroValue4
  t5 := Tryz.underlying5
  a5 := Tryz.isAgg5
  z5 := Tryz.sizeOf5
  v5 := Tryz.zeroValue5
  t9 := Tryz.underlying9
  a9 := Tryz.isAgg9
  z9 := Tryz.sizeOf9
  v9 := Tryz.zeroValue9
  t20 := Tryz.underlying20
  a20 := Tryz.isAgg20
  z20 := Tryz.sizeOf20
  v20 := Tryz.zeroValue20
  t37 := Tryz.underlying23
  a37 := Tryz.isAgg23
  z37 := Tryz.sizeOf23
  v37 := Tryz.zeroValue23
  t46 := Tryz.underlying66
  a46 := Tryz.isAgg66
  z46 := Tryz.sizeOf66
  v46 := Tryz.zeroValue66
  t51 := Tryz.underlying120
  a51 := Tryz.isAgg120
  z51 := Tryz.sizeOf120
  v51 := Tryz.zeroValue120
  t53 := Tryz.underlying22
  a53 := Tryz.isAgg22
  z53 := Tryz.sizeOf22
  v53 := Tryz.zeroValue22
  t171 := Tryz.underlying103
  a171 := Tryz.isAgg103
  z171 := Tryz.sizeOf103
  v171 := Tryz.zeroValue103
  t173 := Tryz.underlying106
  a173 := Tryz.isAgg106
  z173 := Tryz.sizeOf106
  v173 := Tryz.zeroValue106
  t212 := Tryz.underlying119
  a212 := Tryz.isAgg119
  z212 := Tryz.sizeOf119
  v212 := Tryz.zeroValue119
  t213 := Tryz.underlying121
  a213 := Tryz.isAgg121
  z213 := Tryz.sizeOf121
  t232 := Tryz.underlying144
  a232 := Tryz.isAgg144
  z232 := Tryz.sizeOf144
  v232 := Tryz.zeroValue144
  t233 := Tryz.underlying201
  a233 := Tryz.isAgg201
  z233 := Tryz.sizeOf201
  v233 := Tryz.zeroValue201
  g17 := by kernel_rfl
  g18 := by kernel_rfl
  g19 := by kernel_rfl
  i0 := by kernel_rfl
  i2 := by kernel_rfl
  i3 := by kernel_rfl
  i4 := by kernel_rfl
  i5 := by kernel_rfl
  i9 := by kernel_rfl
  i20 := by kernel_rfl
  i37 := by kernel_rfl
  i46 := by kernel_rfl
  i51 := by kernel_rfl
  i53 := by kernel_rfl
  i171 := by kernel_rfl
  i173 := by kernel_rfl
  i212 := by kernel_rfl
  i232 := by kernel_rfl
  i233 := by kernel_rfl
  m17 := by kernel_rfl
  m18 := by kernel_rfl
  m19 := by kernel_rfl }
open Go.RowKit Go.Sort Go.Lib in
/-- strconv.FormatInt: "FormatInt returns the string representation of i in the given base": AT BASE 10: i's decimal numeral, for every int64. (LAID: no walk: one application.) -/
theorem Tryz.strconv_FormatInt_10 (n : Int) (h0 : -9223372036854775808 ≤ n) (h1 : n ≤ 9223372036854775807) (w : World) (htab : Lib.TabIs Tryz.prog w "internal/strconv.uint64pow10" .u64 Lib.pow10Tab) :
    Calls Tryz.prog 26 #[.int .i64 n, .int .i64 10] w fun e w' => e = .returned (.string ⟨(Lib.itoa n).toArray⟩) ∧ ∃ k os, w' = grow (w.drewN k) os := Any.strconv_FormatInt_10 Tryz.laysM173 n h0 h1 w htab
def Tryz.laysM182_ren : Go.Shelf.Ren := ⟨fun | 182 => 162 | n => n, fun | 130 => 261 | 9 => 9 | 4 => 4 | 0 => 0 | 93 => 233 | 37 => 23 | 3 => 3 | 91 => 231 | 5 => 5 | n => n, fun | n => n⟩
theorem Tryz.laysM182 : Go.Proofs.LaysM.n182 Tryz.prog Tryz.laysM182_ren := {
  mixed := by kernel_rfl
  f182 := Tryz.func162.trans (congrArg some (by kernel_rfl))
  t0 := Tryz.underlying0
  a0 := Tryz.isAgg0
  z0 := Tryz.sizeOf0
  v0 := Tryz.zeroValue0
  t3 := Tryz.underlying3
  a3 := Tryz.isAgg3
  z3 := Tryz.sizeOf3
  v3 := Tryz.zeroValue3
  t4 := Tryz.underlying4
  a4 := Tryz.isAgg4
  z4 := Tryz.sizeOf4
  v4 := Tryz.zeroValue4
  t9 := Tryz.underlying9
  a9 := Tryz.isAgg9
  z9 := Tryz.sizeOf9
  v9 := Tryz.zeroValue9
  t37 := Tryz.underlying23
  a37 := Tryz.isAgg23
  z37 := Tryz.sizeOf23
  v37 := Tryz.zeroValue23
  t93 := Tryz.underlying233
  a93 := Tryz.isAgg233
  z93 := Tryz.sizeOf233
  v93 := Tryz.zeroValue233
  t130 := Tryz.underlying261
  a130 := Tryz.isAgg261
  z130 := Tryz.sizeOf261
  v130 := Tryz.zeroValue261
  t5 := Tryz.underlying5
  a5 := Tryz.isAgg5
  z5 := Tryz.sizeOf5
  v5 := Tryz.zeroValue5
  t91 := Tryz.underlying231
  a91 := Tryz.isAgg231
  z91 := Tryz.sizeOf231
  v91 := Tryz.zeroValue231
  i0 := by kernel_rfl
  i3 := by kernel_rfl
  i4 := by kernel_rfl
  i5 := by kernel_rfl
  i9 := by kernel_rfl
  i37 := by kernel_rfl
  i91 := by kernel_rfl
  i93 := by kernel_rfl
  i130 := by kernel_rfl }
open Go.RowKit in
/-- (*bytes.Buffer).String: "String returns the contents of the unread portion of the buffer as a string.": THE BYTES THAT WERE WRITTEN. The world is as it was but for the count of draws (the statement has two reads: its order is drawn). (LAID: no walk: one application.) -/
theorem Tryz.Buffer_String (B b : Nat) (l : List UInt8) (w : World) (h : Lib.IsBuffer 233 5 B b (Lib.byteCells l) w) :
    Calls Tryz.prog 162 #[.pointer (some ⟨b, 0, none⟩)] w fun e w' => e = .returned (.string ⟨l.toArray⟩) ∧ ∃ n, w' = w.drewN n := Any.Buffer_String Tryz.laysM182 B b l w h
def Tryz.laysM179_ren : Go.Shelf.Ren := ⟨fun | 179 => 156 | 251 => 171 | 252 => 172 | 181 => 179 | 184 => 180 | 290 => 181 | 324 => 191 | n => n, fun | 130 => 261 | 5 => 5 | 75 => 44 | 0 => 0 | 93 => 233 | 91 => 231 | 3 => 3 | 131 => 34 | 4 => 4 | 37 => 23 | 20 => 20 | 80 => 41 | 9 => 9 | n => n, fun | 14 => 12 | n => n⟩
theorem Tryz.laysM179 : Go.Proofs.LaysM.n179 Tryz.prog Tryz.laysM179_ren := {
  mixed := by kernel_rfl
  f179 := Tryz.func156.trans (congrArg some (by kernel_rfl))
  f181 := Tryz.func179.trans (congrArg some (by kernel_rfl))
  f184 := Tryz.func180.trans (congrArg some (by kernel_rfl))
  f251 := Tryz.func171.trans (congrArg some (by kernel_rfl))
  f252 := Tryz.func172.trans (congrArg some (by kernel_rfl))
  f290 := Tryz.func181.trans (congrArg some (by kernel_rfl))
  f324 := Tryz.func191.trans (congrArg some (by kernel_rfl))
  t0 := Tryz.underlying0
  a0 := Tryz.isAgg0
  z0 := Tryz.sizeOf0
  v0 := Tryz.zeroValue0
  t3 := Tryz.underlying3
  a3 := Tryz.isAgg3
  z3 := Tryz.sizeOf3
  v3 := Tryz.zeroValue3
  t4 := Tryz.underlying4
  a4 := Tryz.isAgg4
  z4 := Tryz.sizeOf4
  v4 := Tryz.zeroValue4
  t5 := Tryz.underlying5
  a5 := Tryz.isAgg5
  z5 := Tryz.sizeOf5
  v5 := Tryz.zeroValue5
  t20 := Tryz.underlying20
  a20 := Tryz.isAgg20
  z20 := Tryz.sizeOf20
  v20 := Tryz.zeroValue20
  t37 := Tryz.underlying23
  a37 := Tryz.isAgg23
  z37 := Tryz.sizeOf23
  v37 := Tryz.zeroValue23
  t75 := Tryz.underlying44
  a75 := Tryz.isAgg44
  z75 := Tryz.sizeOf44
  v75 := Tryz.zeroValue44
  t91 := Tryz.underlying231
  a91 := Tryz.isAgg231
  z91 := Tryz.sizeOf231
  v91 := Tryz.zeroValue231
  t93 := Tryz.underlying233
  a93 := Tryz.isAgg233
  z93 := Tryz.sizeOf233
  v93 := Tryz.zeroValue233
  t130 := Tryz.underlying261
  a130 := Tryz.isAgg261
  z130 := Tryz.sizeOf261
  v130 := Tryz.zeroValue261
  t131 := Tryz.underlying34
  a131 := Tryz.isAgg34
  z131 := Tryz.sizeOf34
  v131 := Tryz.zeroValue34
  g14 := by kernel_rfl
  t9 := Tryz.underlying9
  a9 := Tryz.isAgg9
  z9 := Tryz.sizeOf9
  v9 := Tryz.zeroValue9
  t80 := Tryz.underlying41
  a80 := Tryz.isAgg41
  z80 := Tryz.sizeOf41
  v80 := Tryz.zeroValue41
  i0 := by kernel_rfl
  i3 := by kernel_rfl
  i4 := by kernel_rfl
  i5 := by kernel_rfl
  i9 := by kernel_rfl
  i20 := by kernel_rfl
  i37 := by kernel_rfl
  i75 := by kernel_rfl
  i80 := by kernel_rfl
  i91 := by kernel_rfl
  i93 := by kernel_rfl
  i130 := by kernel_rfl
  i131 := by kernel_rfl
  m14 := by kernel_rfl }
open Go.RowKit in
theorem Tryz.Buffer_WriteByte_k (B b : Nat) (bs : List Value) (c : Int) (w : World) (h : Lib.IsBuffer 233 5 B b bs w) (hBw : B ≤ w.heap.size) (h1 : ∀ v ∈ bs, v.oneCell' = true) (hlim : bs.length + 1 ≤ 140737488355328) :
    Calls Tryz.prog 156 #[.pointer (some ⟨b, 0, none⟩), .int .u8 c] w fun e w' => e = .returned .nilIface ∧ Lib.IsBuffer 233 5 B b (bs ++ [.int .u8 c]) w' ∧ Below B w w' ∧ Lib.OthersKept 5 (some b) w w' := Any.Buffer_WriteByte_k Tryz.laysM179 B b bs c w h hBw h1 hlim
def Tryz.laysWr5_ren : Go.Shelf.Ren := ⟨fun | 5 => 160 | 7 => 156 | 8 => 171 | 9 => 172 | 10 => 173 | 11 => 179 | 12 => 180 | 13 => 181 | 14 => 182 | 15 => 191 | n => n, fun | 34 => 261 | 21 => 21 | 3 => 3 | 28 => 44 | 35 => 120 | 4 => 4 | 5 => 5 | 0 => 0 | 26 => 233 | 24 => 231 | 37 => 34 | 22 => 23 | 43 => 66 | 20 => 20 | 31 => 41 | 9 => 9 | n => n, fun | 0 => 12 | n => n⟩
theorem Tryz.laysWr5 : Go.Proofs.LaysWr.n5 Tryz.prog Tryz.laysWr5_ren := {
  mixed := by kernel_rfl
  f5 := Tryz.func160.trans (congrArg some (by kernel_rfl))
  f7 := Tryz.func156.trans (congrArg some (by kernel_rfl))
  f8 := Tryz.func171.trans (congrArg some (by kernel_rfl))
  f9 := Tryz.func172.trans (congrArg some (by kernel_rfl))
  f10 := Tryz.func173.trans (congrArg some (by kernel_rfl))
  f11 := Tryz.func179.trans (congrArg some (by kernel_rfl))
  f12 := Tryz.func180.trans (congrArg some (by kernel_rfl))
  f13 := Tryz.func181.trans (congrArg some (by kernel_rfl))
  f14 := Tryz.func182.trans (congrArg some (by kernel_rfl))
  f15 := Tryz.func191.trans (congrArg some (by kernel_rfl))
  t0 := Tryz.underlying0
  a0 := Tryz.isAgg0
  z0 := Tryz.sizeOf0
  v0 := Tryz.zeroValue0
  i0 := by kernel_rfl
  t3 := Tryz.underlying3
  a3 := Tryz.isAgg3
  z3 := Tryz.sizeOf3
  v3 := Tryz.zeroValue3
  i3 := by kernel_rfl
  t4 := Tryz.underlying4
  a4 := Tryz.isAgg4
  z4 := Tryz.sizeOf4
  v4 := Tryz.zeroValue4
  i4 := by kernel_rfl
  t5 := Tryz.underlying5
  a5 := Tryz.isAgg5
  z5 := Tryz.sizeOf5
  v5 := Tryz.zeroValue5
  i5 := by kernel_rfl
  t9 := Tryz.underlying9
  a9 := Tryz.isAgg9
  z9 := Tryz.sizeOf9
  v9 := Tryz.zeroValue9
  i9 := by kernel_rfl
  t20 := Tryz.underlying20
  a20 := Tryz.isAgg20
  z20 := Tryz.sizeOf20
  v20 := Tryz.zeroValue20
  i20 := by kernel_rfl
  t21 := Tryz.underlying21
  a21 := Tryz.isAgg21
  z21 := Tryz.sizeOf21
  v21 := Tryz.zeroValue21
  i21 := by kernel_rfl
  t22 := Tryz.underlying23
  a22 := Tryz.isAgg23
  z22 := Tryz.sizeOf23
  v22 := Tryz.zeroValue23
  i22 := by kernel_rfl
  t24 := Tryz.underlying231
  a24 := Tryz.isAgg231
  z24 := Tryz.sizeOf231
  v24 := Tryz.zeroValue231
  i24 := by kernel_rfl
  t26 := Tryz.underlying233
  a26 := Tryz.isAgg233
  z26 := Tryz.sizeOf233
  v26 := Tryz.zeroValue233
  i26 := by kernel_rfl
  t28 := Tryz.underlying44
  a28 := Tryz.isAgg44
  z28 := Tryz.sizeOf44
  v28 := Tryz.zeroValue44
  i28 := by kernel_rfl
  t31 := Tryz.underlying41
  a31 := Tryz.isAgg41
  z31 := Tryz.sizeOf41
  v31 := Tryz.zeroValue41
  i31 := by kernel_rfl
  t34 := Tryz.underlying261
  a34 := Tryz.isAgg261
  z34 := Tryz.sizeOf261
  v34 := Tryz.zeroValue261
  i34 := by kernel_rfl
  t35 := Tryz.underlying120
  a35 := Tryz.isAgg120
  z35 := Tryz.sizeOf120
  v35 := Tryz.zeroValue120
  i35 := by kernel_rfl
  t37 := Tryz.underlying34
  a37 := Tryz.isAgg34
  z37 := Tryz.sizeOf34
  v37 := Tryz.zeroValue34
  i37 := by kernel_rfl
  t43 := Tryz.underlying66
  a43 := Tryz.isAgg66
  z43 := Tryz.sizeOf66
  v43 := Tryz.zeroValue66
  i43 := by kernel_rfl
  g0 := by kernel_rfl
  m0 := by kernel_rfl }
open Go.RowKit in
/-- (*bytes.Buffer).WriteRune, AT EVERY RUNE: (the number of its bytes, nil); THE BUFFER HOLDS THEM BEHIND WHAT IT HELD. The frames: as '_k'. NO WALK: the two roads as one. (LAID: no walk: one application.) -/
theorem Tryz.Buffer_WriteRune_k (B b : Nat) (bs : List Value) (r : Int) (hr0 : -2147483648 ≤ r) (hr1 : r ≤ 2147483647) (w : World) (h : Lib.IsBuffer 233 5 B b bs w) (hBw : B ≤ w.heap.size) (h1 : ∀ v ∈ bs, v.oneCell' = true) (hlim : bs.length + 4 ≤ 140737488355328) :
    Calls Tryz.prog 160 #[.pointer (some ⟨b, 0, none⟩), .int .i32 r] w fun e w' => e = .returned (.tuple #[.int .i64 (Lib.runeCells r).length, .nilIface]) ∧ Lib.IsBuffer 233 5 B b (bs ++ Lib.runeCells r) w' ∧ Below B w w' ∧ Lib.OthersKept 5 (some b) w w' := Any.Buffer_WriteRune_k Tryz.laysWr5 B b bs r hr0 hr1 w h hBw h1 hlim
def Tryz.lays264_ren : Go.Shelf.Ren := ⟨fun | 264 => 149 | n => n, fun | 53 => 22 | 46 => 66 | n => n, fun | n => n⟩
theorem Tryz.lays264 : Go.Proofs.Lays.n264 Tryz.prog Tryz.lays264_ren := {
  mixed := by kernel_rfl
  f264 := Tryz.func149.trans (congrArg some (by kernel_rfl))
  t46 := Tryz.underlying66
  a46 := Tryz.isAgg66
  z46 := Tryz.sizeOf66
  v46 := Tryz.zeroValue66
  t53 := Tryz.underlying22
  a53 := Tryz.isAgg22
  z53 := Tryz.sizeOf22
  v53 := Tryz.zeroValue22 }
open Go.RowKit Go.Lib in
theorem Tryz.bits_Mul64 (x y : Nat) (hx : x < 18446744073709551616) (hy : y < 18446744073709551616) (w : World) :
    Calls Tryz.prog 149 #[.int .u64 x, .int .u64 y] w fun e w' => e = .returned (.tuple #[.int .u64 ((x * y / 18446744073709551616 : Nat) : Int), .int .u64 ((x * y % 18446744073709551616 : Nat) : Int)]) ∧ w' = w := Any.bits_Mul64 Tryz.lays264 x y hx hy w
end Go.Proofs
