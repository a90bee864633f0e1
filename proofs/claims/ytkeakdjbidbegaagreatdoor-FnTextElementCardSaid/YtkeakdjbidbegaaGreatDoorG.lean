/- A part of the proof that laws.FnTextElement returns true at every input: Shelf, Sca, Sho. -/
import Derived.Shelf.Strings.Builder1
import Derived.Shelf.Small.Utf8
import Derived.Shelf.Small.Bits
import Derived.Shelf.Small.Wraps
import Derived.Shelf.Strings.BuilderF
import Derived.Shelf.Strings.BuilderK
import Derived.Ground.PaProg
import Derived.Shelf.Hex.Tagged
import Derived.Shelf.Strconv.Itoa0
import Derived.Shelf.Strconv.Itoa1
import Derived.Shelf.LaysM
import Derived.Shelf.Strconv.Itoa2
import Derived.Shelf.Strconv.Itoa3
import Derived.Shelf.Strconv.Itoa4
import Derived.Shelf.Bytes.Len
import Derived.Shelf.Bytes.TryGrow
import Derived.Shelf.Bytes.GrowSliceCatch
import Derived.Shelf.Bytes.GrowSlice
import Derived.Shelf.Bytes.String
import Derived.Ground.MnProg
import Derived.Shelf.Bin.LEUint32
import Derived.Shelf.Bin.LEUint64
import Derived.Shelf.Bytes.GrowRow0Kept
import Derived.Shelf.Bytes.GrowRowKept
import Derived.Shelf.Bytes.GrowNilKept
import Derived.Shelf.Bytes.GrowKept
import Derived.Shelf.Bytes.WriteByteKept
import Derived.Shelf.Bytes.WriteStringKept
import Derived.Shelf.Bytes.ResetKept
import Derived.Shelf.Bytes.BufferK
import Derived.Shelf.Bin.ReadersZ
import Derived.Shelf.Bytes.GrowRow0Own
import Derived.Shelf.Bytes.GrowRowOwn
import Derived.Shelf.Bytes.GrowNilOwn
import Derived.Shelf.Bytes.GrowOwn
import Derived.Ground.GgtProg
import Derived.Shelf.GgSortMore.Iface
import Derived.Shelf.GgSortMore.IfaceD
import Derived.Shelf.GgSortMore.IfacePart
import Derived.Shelf.GgSortMore.IfacePdq
import Derived.Shelf.GgSortMore.SortSort
import Derived.Shelf.Unicode.Decode
import Derived.Shelf.Bits.Mul64
import Derived.Shelf.Unicode.DecodeSlow
import Derived.Shelf.Unicode.DecodeAny
import Derived.Shelf.Bytes.SlIndexAt
import Derived.Ground.GgsProg
import Derived.Shelf.SlSortFunc.Xorshift
import Derived.Shelf.SlSortIface.SiftDown
import Derived.Shelf.SlSortIface.HeapSort
import Derived.Shelf.SlSortIface.PartialInsertion
import Derived.Shelf.Bytes.IndexByte
import Derived.Test.YtkeakdjbidbegaaGreatDoorProg
import Derived.Test.YtkeakdjbidbegaaGreatDoorA
import Derived.Test.YtkeakdjbidbegaaGreatDoorC
import Derived.Laws.Closers25b
import Derived.Great.Walk
set_option linter.unusedSimpArgs false
set_option linter.unusedVariables false
set_option maxRecDepth 100000
set_option maxHeartbeats 8000000
namespace Go.Proofs
open Go.Shelf
def Tryz.lays170_ren : Go.Shelf.Ren := ⟨fun | 170 => 29 | n => n, fun | 70 => 56 | 3 => 3 | 0 => 0 | 72 => 58 | 37 => 23 | 5 => 5 | n => n, fun | n => n⟩
theorem Tryz.lays170 : Go.Proofs.Lays.n170 Tryz.prog Tryz.lays170_ren := {
 mixed := by kernel_rfl
 f170 := Tryz.func29.trans (congrArg some (by kernel_rfl))
 t0 := Tryz.underlying0
 a0 := Tryz.isAgg0
 z0 := Tryz.sizeOf0
 v0 := Tryz.zeroValue0
 t3 := Tryz.underlying3
 a3 := Tryz.isAgg3
 z3 := Tryz.sizeOf3
 v3 := Tryz.zeroValue3
 t37 := Tryz.underlying23
 a37 := Tryz.isAgg23
 z37 := Tryz.sizeOf23
 v37 := Tryz.zeroValue23
 t70 := Tryz.underlying56
 a70 := Tryz.isAgg56
 z70 := Tryz.sizeOf56
 v70 := Tryz.zeroValue56
 t72 := Tryz.underlying58
 a72 := Tryz.isAgg58
 z72 := Tryz.sizeOf58
 v72 := Tryz.zeroValue58 }
open Go.RowKit in
theorem Tryz.Builder_Len (B b : Nat) (bs : List Value) (w : World) (h : Lib.IsBuilder 58 5 B b bs w) :
  Calls Tryz.prog 29 #[.pointer (some ⟨b, 0, none⟩)] w fun e w' => e = .returned (.int .i64 bs.length) ∧ w' = w := Any.Builder_Len Tryz.lays170 B b bs w h
def Tryz.lays169_ren : Go.Shelf.Ren := ⟨fun | 169 => 32 | n => n, fun | 70 => 56 | 9 => 9 | 0 => 0 | 72 => 58 | 37 => 23 | 127 => 94 | 3 => 3 | 5 => 5 | n => n, fun | n => n⟩
theorem Tryz.lays169 : Go.Proofs.Lays.n169 Tryz.prog Tryz.lays169_ren := {
 mixed := by kernel_rfl
 f169 := Tryz.func32.trans (congrArg some (by kernel_rfl))
 t0 := Tryz.underlying0
 a0 := Tryz.isAgg0
 z0 := Tryz.sizeOf0
 v0 := Tryz.zeroValue0
 t3 := Tryz.underlying3
 a3 := Tryz.isAgg3
 z3 := Tryz.sizeOf3
 v3 := Tryz.zeroValue3
 t9 := Tryz.underlying9
 a9 := Tryz.isAgg9
 z9 := Tryz.sizeOf9
 v9 := Tryz.zeroValue9
 t37 := Tryz.underlying23
 a37 := Tryz.isAgg23
 z37 := Tryz.sizeOf23
 v37 := Tryz.zeroValue23
 t70 := Tryz.underlying56
 a70 := Tryz.isAgg56
 z70 := Tryz.sizeOf56
 v70 := Tryz.zeroValue56
 t72 := Tryz.underlying58
 a72 := Tryz.isAgg58
 z72 := Tryz.sizeOf58
 v72 := Tryz.zeroValue58
 t127 := Tryz.underlying94
 a127 := Tryz.isAgg94
 z127 := Tryz.sizeOf94
 v127 := Tryz.zeroValue94 }
theorem Tryz.Builder_Extra_169 : Builder.Extra Tryz.prog Tryz.lays169_ren := {
 sizeBuilder := by kernel_rfl
 liesBuilder := by kernel_rfl
 t5 := Tryz.underlying5
 a5 := Tryz.isAgg5
 z5 := Tryz.sizeOf5
 v5 := Tryz.zeroValue5
 infoByte := by kernel_rfl
 cellsByte := by kernel_rfl
 sizeByte := by kernel_rfl
 neB5 := by decide }
open Go.RowKit in
theorem Tryz.Builder_String_any (B b : Nat) (l : List UInt8) (w : World) (h : Lib.IsBuilder 58 5 B b (Lib.byteCells l) w) (hBw : B ≤ w.heap.size) :
  Calls Tryz.prog 32 #[.pointer (some ⟨b, 0, none⟩)] w fun e w' => e = .returned (.string ⟨l.toArray⟩) ∧ Below B w w' := Any.Builder_String_any Tryz.lays169 Tryz.Builder_Extra_169 B b l w h hBw
def Tryz.lays120_ren : Go.Shelf.Ren := ⟨fun | 120 => 62 | n => n, fun | 5 => 5 | 4 => 4 | n => n, fun | n => n⟩
theorem Tryz.lays120 : Go.Proofs.Lays.n120 Tryz.prog Tryz.lays120_ren := {
 mixed := by kernel_rfl
 f120 := Tryz.func62.trans (congrArg some (by kernel_rfl))
 t4 := Tryz.underlying4
 a4 := Tryz.isAgg4
 z4 := Tryz.sizeOf4
 v4 := Tryz.zeroValue4
 t5 := Tryz.underlying5
 a5 := Tryz.isAgg5
 z5 := Tryz.sizeOf5
 v5 := Tryz.zeroValue5 }
theorem Tryz.utf8_RuneStart (b : Int) (w : World) (h0 : 0 ≤ b) (h1 : b < 256) :
  Calls Tryz.prog 62 #[.int .u8 b] w fun e w' => e = .returned (.bool (Lib.runeStart b)) ∧ w' = w := Any.utf8_RuneStart Tryz.lays120 b w h0 h1
def Tryz.lays121_ren : Go.Shelf.Ren := ⟨fun | 121 => 76 | 214 => 123 | n => n, fun | 4 => 4 | 9 => 9 | n => n, fun | n => n⟩
theorem Tryz.lays121 : Go.Proofs.Lays.n121 Tryz.prog Tryz.lays121_ren := {
 mixed := by kernel_rfl
 f121 := Tryz.func76.trans (congrArg some (by kernel_rfl))
 f214 := Tryz.func123.trans (congrArg some (by kernel_rfl))
 t4 := Tryz.underlying4
 a4 := Tryz.isAgg4
 z4 := Tryz.sizeOf4
 v4 := Tryz.zeroValue4
 t9 := Tryz.underlying9
 a9 := Tryz.isAgg9
 z9 := Tryz.sizeOf9
 v9 := Tryz.zeroValue9 }
open Go.RowKit in
theorem Tryz.strconv_FormatBool (b : Bool) (w : World) :
  Calls Tryz.prog 76 #[.bool b] w fun e w' => e = .returned (.string ⟨(Lib.formatBool b).toArray⟩) ∧ w' = w := Any.strconv_FormatBool Tryz.lays121 b w
def Tryz.laysPa40_ren : Go.Shelf.Ren := ⟨fun | 40 => 121 | n => n, fun | 30 => 23 | 3 => 3 | 0 => 0 | 5 => 5 | 46 => 74 | 9 => 9 | n => n, fun | n => n⟩
theorem Tryz.laysPa40 : Go.Proofs.Lays.p40 Tryz.prog Tryz.laysPa40_ren := {
 mixed := by kernel_rfl
 f40 := Tryz.func121.trans (congrArg some (by kernel_rfl))
 t0 := Tryz.underlying0
 a0 := Tryz.isAgg0
 z0 := Tryz.sizeOf0
 v0 := Tryz.zeroValue0
 t3 := Tryz.underlying3
 a3 := Tryz.isAgg3
 z3 := Tryz.sizeOf3
 v3 := Tryz.zeroValue3
 t5 := Tryz.underlying5
 a5 := Tryz.isAgg5
 z5 := Tryz.sizeOf5
 v5 := Tryz.zeroValue5
 t9 := Tryz.underlying9
 a9 := Tryz.isAgg9
 z9 := Tryz.sizeOf9
 v9 := Tryz.zeroValue9
 t30 := Tryz.underlying23
 a30 := Tryz.isAgg23
 z30 := Tryz.sizeOf23
 v30 := Tryz.zeroValue23
 t46 := Tryz.underlying74
 a46 := Tryz.isAgg74
 z46 := Tryz.sizeOf74
 v46 := Tryz.zeroValue74 }
open Go.RowKit Go.Lib in
theorem Tryz.hex_Encode_tag (T : TypeId) (bd od nd cd N : Nat) (f : Nat → Value) (bs os n cs : Nat) (xs : List Int) (w : World) (hx : xs.length = n) (hr : ∀ i, i < n → 0 ≤ xs.getD i 0 ∧ xs.getD i 0 < 256) (hsrc : ∀ i, i < n → w.cell? ⟨bs, os + i, none⟩ = some (.int .u8 (xs.getD i 0))) (hrow : w.rowIs bd T N f) (hfit : od + nd ≤ N) (hlen : 2 * n ≤ nd) (hne : bd ≠ bs) (hbig : n ≤ 4611686018427387903) :
  Calls Tryz.prog 121 #[.slice (some ⟨bd, od, none⟩) nd cd, .slice (some ⟨bs, os, none⟩) n cs] w fun e w' => e = .returned (.int .i64 ((n : Int) * 2)) ∧ w'.rowIs bd T N (Hx.row f od (Lib.bytesOf xs) n) ∧ w.grownBy w' (some bd) := Any.hex_Encode_tag Tryz.laysPa40 T bd od nd cd N f bs os n cs xs w hx hr hsrc hrow hfit hlen hne hbig
def Tryz.lays129_ren : Go.Shelf.Ren := ⟨fun | 129 => 164 | n => n, fun | 53 => 22 | 3 => 3 | 4 => 4 | 46 => 74 | 5 => 5 | 9 => 9 | n => n, fun | n => n⟩
theorem Tryz.lays129 : Go.Proofs.Lays.n129 Tryz.prog Tryz.lays129_ren := {
 mixed := by kernel_rfl
 f129 := Tryz.func164.trans (congrArg some (by kernel_rfl))
 t3 := Tryz.underlying3
 a3 := Tryz.isAgg3
 z3 := Tryz.sizeOf3
 v3 := Tryz.zeroValue3
 t4 := Tryz.underlying4
 a4 := Tryz.isAgg4
 z4 := Tryz.sizeOf4
 v4 := Tryz.zeroValue4
 t5 := Tryz.underlying5
 a5 := Tryz.isAgg5
 z5 := Tryz.sizeOf5
 v5 := Tryz.zeroValue5
 t9 := Tryz.underlying9
 a9 := Tryz.isAgg9
 z9 := Tryz.sizeOf9
 v9 := Tryz.zeroValue9
 t46 := Tryz.underlying74
 a46 := Tryz.isAgg74
 z46 := Tryz.sizeOf74
 v46 := Tryz.zeroValue74
 t53 := Tryz.underlying22
 a53 := Tryz.isAgg22
 z53 := Tryz.sizeOf22
 v53 := Tryz.zeroValue22 }
theorem Tryz.bits_Len64 (x : Int) (w : World) (h0 : 0 ≤ x) (h1 : x ≤ 18446744073709551615) :
  Calls Tryz.prog 164 #[.int .u64 x] w fun e w' => e = .returned (.int .i64 (Lib.bitLen x.toNat)) ∧ w' = w := Any.bits_Len64 Tryz.lays129 x w h0 h1
def Tryz.lays318_ren : Go.Shelf.Ren := ⟨fun | 318 => 165 | n => n, fun | 3 => 3 | 4 => 4 | n => n, fun | n => n⟩
theorem Tryz.lays318 : Go.Proofs.Lays.n318 Tryz.prog Tryz.lays318_ren := {
 mixed := by kernel_rfl
 f318 := Tryz.func165.trans (congrArg some (by kernel_rfl))
 t3 := Tryz.underlying3
 a3 := Tryz.isAgg3
 z3 := Tryz.sizeOf3
 v3 := Tryz.zeroValue3
 t4 := Tryz.underlying4
 a4 := Tryz.isAgg4
 z4 := Tryz.sizeOf4
 v4 := Tryz.zeroValue4 }
open Go.Lib in
theorem Tryz.internal_strconv_bool2_int (b : Bool) (w : World) :
  Calls Tryz.prog 165 #[.bool b] w fun e w' => e = .returned (.int .i64 (if b then 1 else 0)) ∧ w' = w := Any.internal_strconv_bool2_int Tryz.lays318 b w
def Tryz.lays283_ren : Go.Shelf.Ren := ⟨fun | 283 => 142 | n => n, fun | 3 => 3 | 9 => 9 | 4 => 4 | n => n, fun | n => n⟩
theorem Tryz.lays283 : Go.Proofs.Lays.n283 Tryz.prog Tryz.lays283_ren := {
 mixed := by kernel_rfl
 f283 := Tryz.func142.trans (congrArg some (by kernel_rfl))
 t3 := Tryz.underlying3
 a3 := Tryz.isAgg3
 z3 := Tryz.sizeOf3
 v3 := Tryz.zeroValue3
 t4 := Tryz.underlying4
 a4 := Tryz.isAgg4
 z4 := Tryz.sizeOf4
 v4 := Tryz.zeroValue4
 t9 := Tryz.underlying9
 a9 := Tryz.isAgg9
 z9 := Tryz.sizeOf9
 v9 := Tryz.zeroValue9 }
open Go.Lib in
theorem Tryz.internal_strconv_small (i : Nat) (h : i < 100) (w : World) :
  Calls Tryz.prog 142 #[.int .i64 i] w fun e w' => e = .returned (.string ⟨(Lib.decDigits i).toArray⟩) ∧ w' = w := Any.internal_strconv_small Tryz.lays283 i h w
def Tryz.laysM284_ren : Go.Shelf.Ren := ⟨fun | 284 => 143 | 129 => 164 | 317 => 163 | 318 => 165 | n => n, fun | 53 => 22 | 3 => 3 | 212 => 225 | 0 => 0 | 4 => 4 | 46 => 74 | 5 => 5 | 9 => 9 | n => n, fun | 17 => 4 | n => n⟩
theorem Tryz.laysM284 : Go.Proofs.LaysM.n284 Tryz.prog Tryz.laysM284_ren := {
 mixed := by kernel_rfl
 f129 := Tryz.func164.trans (congrArg some (by kernel_rfl))
 f284 := Tryz.func143.trans (congrArg some (by kernel_rfl))
 f317 := Tryz.func163.trans (congrArg some (by kernel_rfl))
 f318 := Tryz.func165.trans (congrArg some (by kernel_rfl))
 t0 := Tryz.underlying0
 a0 := Tryz.isAgg0
 z0 := Tryz.sizeOf0
 v0 := Tryz.zeroValue0
 t3 := Tryz.underlying3
 a3 := Tryz.isAgg3
 z3 := Tryz.sizeOf3
 v3 := Tryz.zeroValue3
 t4 := Tryz.underlying4
 a4 := Tryz.isAgg4
 z4 := Tryz.sizeOf4
 v4 := Tryz.zeroValue4
 t5 := Tryz.underlying5
 a5 := Tryz.isAgg5
 z5 := Tryz.sizeOf5
 v5 := Tryz.zeroValue5
 t9 := Tryz.underlying9
 a9 := Tryz.isAgg9
 z9 := Tryz.sizeOf9
 v9 := Tryz.zeroValue9
 t46 := Tryz.underlying74
 a46 := Tryz.isAgg74
 z46 := Tryz.sizeOf74
 v46 := Tryz.zeroValue74
 t53 := Tryz.underlying22
 a53 := Tryz.isAgg22
 z53 := Tryz.sizeOf22
 v53 := Tryz.zeroValue22
 t212 := Tryz.underlying225
 a212 := Tryz.isAgg225
 z212 := Tryz.sizeOf225
 v212 := Tryz.zeroValue225
 g17 := by kernel_rfl
 i0 := by kernel_rfl
 i3 := by kernel_rfl
 i4 := by kernel_rfl
 i5 := by kernel_rfl
 i9 := by kernel_rfl
 i46 := by kernel_rfl
 i53 := by kernel_rfl
 i212 := by kernel_rfl
 m17 := by kernel_rfl }
open Go.Lib in
theorem Tryz.internal_strconv_numDigits (u : Nat) (h1 : 1 ≤ u) (h2 : u < 18446744073709551616) (w : World) (htab : Lib.TabIs Tryz.prog w "internal/strconv.uint64pow10" .u64 Lib.pow10Tab) :
  Calls Tryz.prog 143 #[.int .u64 u] w fun e w' => e = .returned (.int .i64 (Lib.nDigits u)) ∧ w' = w := Any.internal_strconv_numDigits Tryz.laysM284 u h1 h2 w htab
def Tryz.lays285_ren : Go.Shelf.Ren := ⟨fun | 285 => 144 | n => n, fun | 37 => 23 | 53 => 22 | 3 => 3 | 4 => 4 | 51 => 124 | 9 => 9 | 5 => 5 | 0 => 0 | n => n, fun | n => n⟩
theorem Tryz.lays285 : Go.Proofs.Lays.n285 Tryz.prog Tryz.lays285_ren := {
 mixed := by kernel_rfl
 f285 := Tryz.func144.trans (congrArg some (by kernel_rfl))
 t0 := Tryz.underlying0
 a0 := Tryz.isAgg0
 z0 := Tryz.sizeOf0
 v0 := Tryz.zeroValue0
 t3 := Tryz.underlying3
 a3 := Tryz.isAgg3
 z3 := Tryz.sizeOf3
 v3 := Tryz.zeroValue3
 t4 := Tryz.underlying4
 a4 := Tryz.isAgg4
 z4 := Tryz.sizeOf4
 v4 := Tryz.zeroValue4
 t5 := Tryz.underlying5
 a5 := Tryz.isAgg5
 z5 := Tryz.sizeOf5
 v5 := Tryz.zeroValue5
 t9 := Tryz.underlying9
 a9 := Tryz.isAgg9
 z9 := Tryz.sizeOf9
 v9 := Tryz.zeroValue9
 t37 := Tryz.underlying23
 a37 := Tryz.isAgg23
 z37 := Tryz.sizeOf23
 v37 := Tryz.zeroValue23
 t51 := Tryz.underlying124
 a51 := Tryz.isAgg124
 z51 := Tryz.sizeOf124
 v51 := Tryz.zeroValue124
 t53 := Tryz.underlying22
 a53 := Tryz.isAgg22
 z53 := Tryz.sizeOf22
 v53 := Tryz.zeroValue22 }
open Go.RowKit Go.Sort Go.Lib in
theorem Tryz.internal_strconv_formatBase10 (blk off cap : Nat) (u : Nat) (d : Array UInt8) (w : World) (hH : Holds (fun (b : UInt8) => Value.int .u8 (b.toNat : Int)) w blk off d) (hu : u < 10 ^ d.size) (hu64 : u < 18446744073709551616) (hsz : d.size < 4611686018427387904) :
  Calls Tryz.prog 144 #[.slice (some ⟨blk, off, none⟩) d.size cap, .int .u64 u] w fun e w' =>
   e = .returned (.tuple #[]) ∧ ∃ (n v' : Nat) (dk : Array UInt8), w' = (putRow (fun (b : UInt8) => Value.int .u8 (b.toNat : Int)) w blk off dk).drewN n ∧ FmtInv d.size u 0 v' dk := Any.internal_strconv_formatBase10 Tryz.lays285 blk off cap u d w hH hu hu64 hsz
def Tryz.laysM171_ren : Go.Shelf.Ren := ⟨fun | 171 => 136 | 243 => 159 | 246 => 103 | 283 => 142 | 284 => 143 | 285 => 144 | 286 => 145 | 129 => 164 | 317 => 163 | 318 => 165 | 319 => 166 | 320 => 167 | 337 => 195 | 338 => 196 | n => n, fun | 3 => 3 | 9 => 9 | 2 => 2 | 4 => 4 | 171 => 166 | 0 => 0 | 53 => 22 | 37 => 23 | 5 => 5 | 173 => 194 | 212 => 225 | 51 => 124 | 20 => 20 | 213 => 226 | 46 => 74 | 232 => 247 | 233 => 205 | n => n, fun | 17 => 4 | 18 => 10 | 19 => 11 | n => n⟩
theorem Tryz.laysM171 : Go.Proofs.LaysM.n171 Tryz.prog Tryz.laysM171_ren := {
 mixed := by kernel_rfl
 f129 := Tryz.func164.trans (congrArg some (by kernel_rfl))
 f171 := Tryz.func136.trans (congrArg some (by kernel_rfl))
 f243 := Tryz.func159.trans (congrArg some (by kernel_rfl))
 f246 := Tryz.func103.trans (congrArg some (by kernel_rfl))
 f283 := Tryz.func142.trans (congrArg some (by kernel_rfl))
 f284 := Tryz.func143.trans (congrArg some (by kernel_rfl))
 f285 := Tryz.func144.trans (congrArg some (by kernel_rfl))
 f286 := Tryz.func145.trans (congrArg some (by kernel_rfl))
 f317 := Tryz.func163.trans (congrArg some (by kernel_rfl))
 f318 := Tryz.func165.trans (congrArg some (by kernel_rfl))
 f319 := Tryz.func166.trans (congrArg some (by kernel_rfl))
 f320 := Tryz.func167.trans (congrArg some (by kernel_rfl))
 f337 := Tryz.func195.trans (congrArg some (by kernel_rfl))
 f338 := Tryz.func196.trans (congrArg some (by kernel_rfl))
 t0 := Tryz.underlying0
 a0 := Tryz.isAgg0
 z0 := Tryz.sizeOf0
 v0 := Tryz.zeroValue0
 t2 := Tryz.underlying2
 a2 := Tryz.isAgg2
 z2 := Tryz.sizeOf2
 v2 := Tryz.zeroValue2
 t3 := Tryz.underlying3
 a3 := Tryz.isAgg3
 z3 := Tryz.sizeOf3
 v3 := Tryz.zeroValue3
 t4 := Tryz.underlying4
 a4 := Tryz.isAgg4
 z4 := Tryz.sizeOf4
 v4 := Tryz.zeroValue4
 t5 := Tryz.underlying5
 a5 := Tryz.isAgg5
 z5 := Tryz.sizeOf5
 v5 := Tryz.zeroValue5
 t9 := Tryz.underlying9
 a9 := Tryz.isAgg9
 z9 := Tryz.sizeOf9
 v9 := Tryz.zeroValue9
 t20 := Tryz.underlying20
 a20 := Tryz.isAgg20
 z20 := Tryz.sizeOf20
 v20 := Tryz.zeroValue20
 t37 := Tryz.underlying23
 a37 := Tryz.isAgg23
 z37 := Tryz.sizeOf23
 v37 := Tryz.zeroValue23
 t46 := Tryz.underlying74
 a46 := Tryz.isAgg74
 z46 := Tryz.sizeOf74
 v46 := Tryz.zeroValue74
 t51 := Tryz.underlying124
 a51 := Tryz.isAgg124
 z51 := Tryz.sizeOf124
 v51 := Tryz.zeroValue124
 t53 := Tryz.underlying22
 a53 := Tryz.isAgg22
 z53 := Tryz.sizeOf22
 v53 := Tryz.zeroValue22
 t171 := Tryz.underlying166
 a171 := Tryz.isAgg166
 z171 := Tryz.sizeOf166
 v171 := Tryz.zeroValue166
 t173 := Tryz.underlying194
 a173 := Tryz.isAgg194
 z173 := Tryz.sizeOf194
 v173 := Tryz.zeroValue194
 t212 := Tryz.underlying225
 a212 := Tryz.isAgg225
 z212 := Tryz.sizeOf225
 v212 := Tryz.zeroValue225
 t213 := Tryz.underlying226
 a213 := Tryz.isAgg226
 z213 := Tryz.sizeOf226
 t232 := Tryz.underlying247
 a232 := Tryz.isAgg247
 z232 := Tryz.sizeOf247
 v232 := Tryz.zeroValue247
 t233 := Tryz.underlying205
 a233 := Tryz.isAgg205
 z233 := Tryz.sizeOf205
 v233 := Tryz.zeroValue205
 g17 := by kernel_rfl
 g18 := by kernel_rfl
 g19 := by kernel_rfl
 i0 := by kernel_rfl
 i2 := by kernel_rfl
 i3 := by kernel_rfl
 i4 := by kernel_rfl
 i5 := by kernel_rfl
 i9 := by kernel_rfl
 i20 := by kernel_rfl
 i37 := by kernel_rfl
 i46 := by kernel_rfl
 i51 := by kernel_rfl
 i53 := by kernel_rfl
 i171 := by kernel_rfl
 i173 := by kernel_rfl
 i212 := by kernel_rfl
 i232 := by kernel_rfl
 i233 := by kernel_rfl
 m17 := by kernel_rfl
 m18 := by kernel_rfl
 m19 := by kernel_rfl }
open Go.RowKit Go.Sort Go.Lib in
theorem Tryz.strconv_Itoa (n : Int) (h0 : -9223372036854775808 ≤ n) (h1 : n ≤ 9223372036854775807) (w : World) (htab : Lib.TabIs Tryz.prog w "internal/strconv.uint64pow10" .u64 Lib.pow10Tab) :
  Calls Tryz.prog 136 #[.int .i64 n] w fun e w' => e = .returned (.string ⟨(Lib.itoa n).toArray⟩) ∧ ∃ k os, w' = grow (w.drewN k) os := Any.strconv_Itoa Tryz.laysM171 n h0 h1 w htab
def Tryz.laysM173_ren : Go.Shelf.Ren := ⟨fun | 173 => 55 | 246 => 103 | 283 => 142 | 284 => 143 | 285 => 144 | 286 => 145 | 129 => 164 | 317 => 163 | 318 => 165 | 319 => 166 | 320 => 167 | 337 => 195 | 338 => 196 | n => n, fun | 2 => 2 | 3 => 3 | 9 => 9 | 4 => 4 | 171 => 166 | 0 => 0 | 53 => 22 | 37 => 23 | 5 => 5 | 173 => 194 | 212 => 225 | 51 => 124 | 20 => 20 | 213 => 226 | 46 => 74 | 232 => 247 | 233 => 205 | n => n, fun | 17 => 4 | 18 => 10 | 19 => 11 | n => n⟩
theorem Tryz.laysM173 : Go.Proofs.LaysM.n173 Tryz.prog Tryz.laysM173_ren := {
 mixed := by kernel_rfl
 f129 := Tryz.func164.trans (congrArg some (by kernel_rfl))
 f173 := Tryz.func55.trans (congrArg some (by kernel_rfl))
 f246 := Tryz.func103.trans (congrArg some (by kernel_rfl))
 f283 := Tryz.func142.trans (congrArg some (by kernel_rfl))
 f284 := Tryz.func143.trans (congrArg some (by kernel_rfl))
 f285 := Tryz.func144.trans (congrArg some (by kernel_rfl))
 f286 := Tryz.func145.trans (congrArg some (by kernel_rfl))
 f317 := Tryz.func163.trans (congrArg some (by kernel_rfl))
 f318 := Tryz.func165.trans (congrArg some (by kernel_rfl))
 f319 := Tryz.func166.trans (congrArg some (by kernel_rfl))
 f320 := Tryz.func167.trans (congrArg some (by kernel_rfl))
 f337 := Tryz.func195.trans (congrArg some (by kernel_rfl))
 f338 := Tryz.func196.trans (congrArg some (by kernel_rfl))
 t0 := Tryz.underlying0
 a0 := Tryz.isAgg0
 z0 := Tryz.sizeOf0
 v0 := Tryz.zeroValue0
 t2 := Tryz.underlying2
 a2 := Tryz.isAgg2
 z2 := Tryz.sizeOf2
 v2 := Tryz.zeroValue2
 t3 := Tryz.underlying3
 a3 := Tryz.isAgg3
 z3 := Tryz.sizeOf3
 v3 := Tryz.zeroValue3
 t4 := Tryz.underlying4
 a4 := Tryz.isAgg4
 z4 := Tryz.sizeOf4
 v4 := Tryz.zeroValue4
 t5 := Tryz.underlying5
 a5 := Tryz.isAgg5
 z5 := Tryz.sizeOf5
 v5 := Tryz.zeroValue5
 t9 := Tryz.underlying9
 a9 := Tryz.isAgg9
 z9 := Tryz.sizeOf9
 v9 := Tryz.zeroValue9
 t20 := Tryz.underlying20
 a20 := Tryz.isAgg20
 z20 := Tryz.sizeOf20
 v20 := Tryz.zeroValue20
 t37 := Tryz.underlying23
 a37 := Tryz.isAgg23
 z37 := Tryz.sizeOf23
 v37 := Tryz.zeroValue23
 t46 := Tryz.underlying74
 a46 := Tryz.isAgg74
 z46 := Tryz.sizeOf74
 v46 := Tryz.zeroValue74
 t51 := Tryz.underlying124
 a51 := Tryz.isAgg124
 z51 := Tryz.sizeOf124
 v51 := Tryz.zeroValue124
 t53 := Tryz.underlying22
 a53 := Tryz.isAgg22
 z53 := Tryz.sizeOf22
 v53 := Tryz.zeroValue22
 t171 := Tryz.underlying166
 a171 := Tryz.isAgg166
 z171 := Tryz.sizeOf166
 v171 := Tryz.zeroValue166
 t173 := Tryz.underlying194
 a173 := Tryz.isAgg194
 z173 := Tryz.sizeOf194
 v173 := Tryz.zeroValue194
 t212 := Tryz.underlying225
 a212 := Tryz.isAgg225
 z212 := Tryz.sizeOf225
 v212 := Tryz.zeroValue225
 t213 := Tryz.underlying226
 a213 := Tryz.isAgg226
 z213 := Tryz.sizeOf226
 t232 := Tryz.underlying247
 a232 := Tryz.isAgg247
 z232 := Tryz.sizeOf247
 v232 := Tryz.zeroValue247
 t233 := Tryz.underlying205
 a233 := Tryz.isAgg205
 z233 := Tryz.sizeOf205
 v233 := Tryz.zeroValue205
 g17 := by kernel_rfl
 g18 := by kernel_rfl
 g19 := by kernel_rfl
 i0 := by kernel_rfl
 i2 := by kernel_rfl
 i3 := by kernel_rfl
 i4 := by kernel_rfl
 i5 := by kernel_rfl
 i9 := by kernel_rfl
 i20 := by kernel_rfl
 i37 := by kernel_rfl
 i46 := by kernel_rfl
 i51 := by kernel_rfl
 i53 := by kernel_rfl
 i171 := by kernel_rfl
 i173 := by kernel_rfl
 i212 := by kernel_rfl
 i232 := by kernel_rfl
 i233 := by kernel_rfl
 m17 := by kernel_rfl
 m18 := by kernel_rfl
 m19 := by kernel_rfl }
open Go.RowKit Go.Sort Go.Lib in
theorem Tryz.strconv_FormatInt_10 (n : Int) (h0 : -9223372036854775808 ≤ n) (h1 : n ≤ 9223372036854775807) (w : World) (htab : Lib.TabIs Tryz.prog w "internal/strconv.uint64pow10" .u64 Lib.pow10Tab) :
  Calls Tryz.prog 55 #[.int .i64 n, .int .i64 10] w fun e w' => e = .returned (.string ⟨(Lib.itoa n).toArray⟩) ∧ ∃ k os, w' = grow (w.drewN k) os := Any.strconv_FormatInt_10 Tryz.laysM173 n h0 h1 w htab
def Tryz.laysM182_ren : Go.Shelf.Ren := ⟨fun | 182 => 113 | n => n, fun | 130 => 198 | 9 => 9 | 4 => 4 | 0 => 0 | 93 => 151 | 37 => 23 | 3 => 3 | 91 => 149 | 5 => 5 | n => n, fun | n => n⟩
theorem Tryz.laysM182 : Go.Proofs.LaysM.n182 Tryz.prog Tryz.laysM182_ren := {
 mixed := by kernel_rfl
 f182 := Tryz.func113.trans (congrArg some (by kernel_rfl))
 t0 := Tryz.underlying0
 a0 := Tryz.isAgg0
 z0 := Tryz.sizeOf0
 v0 := Tryz.zeroValue0
 t3 := Tryz.underlying3
 a3 := Tryz.isAgg3
 z3 := Tryz.sizeOf3
 v3 := Tryz.zeroValue3
 t4 := Tryz.underlying4
 a4 := Tryz.isAgg4
 z4 := Tryz.sizeOf4
 v4 := Tryz.zeroValue4
 t9 := Tryz.underlying9
 a9 := Tryz.isAgg9
 z9 := Tryz.sizeOf9
 v9 := Tryz.zeroValue9
 t37 := Tryz.underlying23
 a37 := Tryz.isAgg23
 z37 := Tryz.sizeOf23
 v37 := Tryz.zeroValue23
 t93 := Tryz.underlying151
 a93 := Tryz.isAgg151
 z93 := Tryz.sizeOf151
 v93 := Tryz.zeroValue151
 t130 := Tryz.underlying198
 a130 := Tryz.isAgg198
 z130 := Tryz.sizeOf198
 v130 := Tryz.zeroValue198
 t5 := Tryz.underlying5
 a5 := Tryz.isAgg5
 z5 := Tryz.sizeOf5
 v5 := Tryz.zeroValue5
 t91 := Tryz.underlying149
 a91 := Tryz.isAgg149
 z91 := Tryz.sizeOf149
 v91 := Tryz.zeroValue149
 i0 := by kernel_rfl
 i3 := by kernel_rfl
 i4 := by kernel_rfl
 i5 := by kernel_rfl
 i9 := by kernel_rfl
 i37 := by kernel_rfl
 i91 := by kernel_rfl
 i93 := by kernel_rfl
 i130 := by kernel_rfl }
open Go.RowKit in
theorem Tryz.Buffer_String (B b : Nat) (l : List UInt8) (w : World) (h : Lib.IsBuffer 151 5 B b (Lib.byteCells l) w) :
  Calls Tryz.prog 113 #[.pointer (some ⟨b, 0, none⟩)] w fun e w' => e = .returned (.string ⟨l.toArray⟩) ∧ ∃ n, w' = w.drewN n := Any.Buffer_String Tryz.laysM182 B b l w h
def Tryz.laysBin30_ren : Go.Shelf.Ren := ⟨fun | 30 => 182 | n => n, fun | 25 => 231 | 22 => 23 | 29 => 124 | 0 => 0 | 5 => 5 | 45 => 74 | n => n, fun | n => n⟩
theorem Tryz.laysBin30 : Go.Proofs.LaysBin.n30 Tryz.prog Tryz.laysBin30_ren := {
 mixed := by kernel_rfl
 f30 := Tryz.func182.trans (congrArg some (by kernel_rfl))
 t0 := Tryz.underlying0
 a0 := Tryz.isAgg0
 z0 := Tryz.sizeOf0
 v0 := Tryz.zeroValue0
 i0 := by kernel_rfl
 t5 := Tryz.underlying5
 a5 := Tryz.isAgg5
 z5 := Tryz.sizeOf5
 v5 := Tryz.zeroValue5
 i5 := by kernel_rfl
 t22 := Tryz.underlying23
 a22 := Tryz.isAgg23
 z22 := Tryz.sizeOf23
 v22 := Tryz.zeroValue23
 i22 := by kernel_rfl
 t25 := Tryz.underlying231
 a25 := Tryz.isAgg231
 z25 := Tryz.sizeOf231
 v25 := Tryz.zeroValue231
 i25 := by kernel_rfl
 t29 := Tryz.underlying124
 a29 := Tryz.isAgg124
 z29 := Tryz.sizeOf124
 v29 := Tryz.zeroValue124
 i29 := by kernel_rfl
 t45 := Tryz.underlying74
 a45 := Tryz.isAgg74
 z45 := Tryz.sizeOf74
 v45 := Tryz.zeroValue74
 i45 := by kernel_rfl }
open Go.RowKit in
theorem Tryz.binary_LE_Uint32 (g o n c : Nat) (b0 b1 b2 b3 : UInt8) (w : World) (hn : 4 ≤ n) (c0 : w.cell? ⟨g, o, none⟩ = some (.int .u8 b0.toNat)) (c1 : w.cell? ⟨g, o + 1, none⟩ = some (.int .u8 b1.toNat)) (c2 : w.cell? ⟨g, o + 2, none⟩ = some (.int .u8 b2.toNat)) (c3 : w.cell? ⟨g, o + 3, none⟩ = some (.int .u8 b3.toNat)) :
  Calls Tryz.prog 182 #[.agg #[], .slice (some ⟨g, o, none⟩) n c] w fun e w' => e = .returned (.int .u32 (Lib.leNat [b0, b1, b2, b3])) ∧ Below w.heap.size w w' := Any.binary_LE_Uint32 Tryz.laysBin30 g o n c b0 b1 b2 b3 w hn c0 c1 c2 c3
def Tryz.laysBin33_ren : Go.Shelf.Ren := ⟨fun | 33 => 171 | n => n, fun | 25 => 231 | 22 => 23 | 33 => 22 | 0 => 0 | 5 => 5 | 45 => 74 | n => n, fun | n => n⟩
theorem Tryz.laysBin33 : Go.Proofs.LaysBin.n33 Tryz.prog Tryz.laysBin33_ren := {
 mixed := by kernel_rfl
 f33 := Tryz.func171.trans (congrArg some (by kernel_rfl))
 t0 := Tryz.underlying0
 a0 := Tryz.isAgg0
 z0 := Tryz.sizeOf0
 v0 := Tryz.zeroValue0
 i0 := by kernel_rfl
 t5 := Tryz.underlying5
 a5 := Tryz.isAgg5
 z5 := Tryz.sizeOf5
 v5 := Tryz.zeroValue5
 i5 := by kernel_rfl
 t22 := Tryz.underlying23
 a22 := Tryz.isAgg23
 z22 := Tryz.sizeOf23
 v22 := Tryz.zeroValue23
 i22 := by kernel_rfl
 t25 := Tryz.underlying231
 a25 := Tryz.isAgg231
 z25 := Tryz.sizeOf231
 v25 := Tryz.zeroValue231
 i25 := by kernel_rfl
 t33 := Tryz.underlying22
 a33 := Tryz.isAgg22
 z33 := Tryz.sizeOf22
 v33 := Tryz.zeroValue22
 i33 := by kernel_rfl
 t45 := Tryz.underlying74
 a45 := Tryz.isAgg74
 z45 := Tryz.sizeOf74
 v45 := Tryz.zeroValue74
 i45 := by kernel_rfl }
open Go.RowKit in
theorem Tryz.binary_LE_Uint64 (g o n c : Nat) (b0 b1 b2 b3 b4 b5 b6 b7 : UInt8) (w : World) (hn : 8 ≤ n) (c0 : w.cell? ⟨g, o, none⟩ = some (.int .u8 b0.toNat)) (c1 : w.cell? ⟨g, o + 1, none⟩ = some (.int .u8 b1.toNat)) (c2 : w.cell? ⟨g, o + 2, none⟩ = some (.int .u8 b2.toNat)) (c3 : w.cell? ⟨g, o + 3, none⟩ = some (.int .u8 b3.toNat)) (c4 : w.cell? ⟨g, o + 4, none⟩ = some (.int .u8 b4.toNat)) (c5 : w.cell? ⟨g, o + 5, none⟩ = some (.int .u8 b5.toNat)) (c6 : w.cell? ⟨g, o + 6, none⟩ = some (.int .u8 b6.toNat)) (c7 : w.cell? ⟨g, o + 7, none⟩ = some (.int .u8 b7.toNat)) :
  Calls Tryz.prog 171 #[.agg #[], .slice (some ⟨g, o, none⟩) n c] w fun e w' => e = .returned (.int .u64 (Lib.leNat [b0, b1, b2, b3, b4, b5, b6, b7])) ∧ Below w.heap.size w w' := Any.binary_LE_Uint64 Tryz.laysBin33 g o n c b0 b1 b2 b3 b4 b5 b6 b7 w hn c0 c1 c2 c3 c4 c5 c6 c7
def Tryz.laysM179_ren : Go.Shelf.Ren := ⟨fun | 179 => 110 | 251 => 147 | 252 => 148 | 181 => 168 | 184 => 169 | 290 => 170 | 324 => 197 | n => n, fun | 130 => 198 | 5 => 5 | 75 => 60 | 0 => 0 | 93 => 151 | 91 => 149 | 3 => 3 | 131 => 199 | 4 => 4 | 37 => 23 | 20 => 20 | 80 => 43 | 9 => 9 | n => n, fun | 14 => 5 | n => n⟩
theorem Tryz.laysM179 : Go.Proofs.LaysM.n179 Tryz.prog Tryz.laysM179_ren := {
 mixed := by kernel_rfl
 f179 := Tryz.func110.trans (congrArg some (by kernel_rfl))
 f181 := Tryz.func168.trans (congrArg some (by kernel_rfl))
 f184 := Tryz.func169.trans (congrArg some (by kernel_rfl))
 f251 := Tryz.func147.trans (congrArg some (by kernel_rfl))
 f252 := Tryz.func148.trans (congrArg some (by kernel_rfl))
 f290 := Tryz.func170.trans (congrArg some (by kernel_rfl))
 f324 := Tryz.func197.trans (congrArg some (by kernel_rfl))
 t0 := Tryz.underlying0
 a0 := Tryz.isAgg0
 z0 := Tryz.sizeOf0
 v0 := Tryz.zeroValue0
 t3 := Tryz.underlying3
 a3 := Tryz.isAgg3
 z3 := Tryz.sizeOf3
 v3 := Tryz.zeroValue3
 t4 := Tryz.underlying4
 a4 := Tryz.isAgg4
 z4 := Tryz.sizeOf4
 v4 := Tryz.zeroValue4
 t5 := Tryz.underlying5
 a5 := Tryz.isAgg5
 z5 := Tryz.sizeOf5
 v5 := Tryz.zeroValue5
 t20 := Tryz.underlying20
 a20 := Tryz.isAgg20
 z20 := Tryz.sizeOf20
 v20 := Tryz.zeroValue20
 t37 := Tryz.underlying23
 a37 := Tryz.isAgg23
 z37 := Tryz.sizeOf23
 v37 := Tryz.zeroValue23
 t75 := Tryz.underlying60
 a75 := Tryz.isAgg60
 z75 := Tryz.sizeOf60
 v75 := Tryz.zeroValue60
 t91 := Tryz.underlying149
 a91 := Tryz.isAgg149
 z91 := Tryz.sizeOf149
 v91 := Tryz.zeroValue149
 t93 := Tryz.underlying151
 a93 := Tryz.isAgg151
 z93 := Tryz.sizeOf151
 v93 := Tryz.zeroValue151
 t130 := Tryz.underlying198
 a130 := Tryz.isAgg198
 z130 := Tryz.sizeOf198
 v130 := Tryz.zeroValue198
 t131 := Tryz.underlying199
 a131 := Tryz.isAgg199
 z131 := Tryz.sizeOf199
 v131 := Tryz.zeroValue199
 g14 := by kernel_rfl
 t9 := Tryz.underlying9
 a9 := Tryz.isAgg9
 z9 := Tryz.sizeOf9
 v9 := Tryz.zeroValue9
 t80 := Tryz.underlying43
 a80 := Tryz.isAgg43
 z80 := Tryz.sizeOf43
 v80 := Tryz.zeroValue43
 i0 := by kernel_rfl
 i3 := by kernel_rfl
 i4 := by kernel_rfl
 i5 := by kernel_rfl
 i9 := by kernel_rfl
 i20 := by kernel_rfl
 i37 := by kernel_rfl
 i75 := by kernel_rfl
 i80 := by kernel_rfl
 i91 := by kernel_rfl
 i93 := by kernel_rfl
 i130 := by kernel_rfl
 i131 := by kernel_rfl
 m14 := by kernel_rfl }
def Tryz.laysM178_ren : Go.Shelf.Ren := ⟨fun | 178 => 111 | 251 => 147 | 252 => 148 | 181 => 168 | 184 => 169 | 290 => 170 | 324 => 197 | n => n, fun | 130 => 198 | 9 => 9 | 3 => 3 | 75 => 60 | 0 => 0 | 93 => 151 | 91 => 149 | 131 => 199 | 4 => 4 | 37 => 23 | 20 => 20 | 80 => 43 | 5 => 5 | n => n, fun | 14 => 5 | n => n⟩
theorem Tryz.laysM178 : Go.Proofs.LaysM.n178 Tryz.prog Tryz.laysM178_ren := {
 mixed := by kernel_rfl
 f178 := Tryz.func111.trans (congrArg some (by kernel_rfl))
 f181 := Tryz.func168.trans (congrArg some (by kernel_rfl))
 f184 := Tryz.func169.trans (congrArg some (by kernel_rfl))
 f251 := Tryz.func147.trans (congrArg some (by kernel_rfl))
 f252 := Tryz.func148.trans (congrArg some (by kernel_rfl))
 f290 := Tryz.func170.trans (congrArg some (by kernel_rfl))
 f324 := Tryz.func197.trans (congrArg some (by kernel_rfl))
 t0 := Tryz.underlying0
 a0 := Tryz.isAgg0
 z0 := Tryz.sizeOf0
 v0 := Tryz.zeroValue0
 t3 := Tryz.underlying3
 a3 := Tryz.isAgg3
 z3 := Tryz.sizeOf3
 v3 := Tryz.zeroValue3
 t4 := Tryz.underlying4
 a4 := Tryz.isAgg4
 z4 := Tryz.sizeOf4
 v4 := Tryz.zeroValue4
 t9 := Tryz.underlying9
 a9 := Tryz.isAgg9
 z9 := Tryz.sizeOf9
 v9 := Tryz.zeroValue9
 t20 := Tryz.underlying20
 a20 := Tryz.isAgg20
 z20 := Tryz.sizeOf20
 v20 := Tryz.zeroValue20
 t37 := Tryz.underlying23
 a37 := Tryz.isAgg23
 z37 := Tryz.sizeOf23
 v37 := Tryz.zeroValue23
 t75 := Tryz.underlying60
 a75 := Tryz.isAgg60
 z75 := Tryz.sizeOf60
 v75 := Tryz.zeroValue60
 t91 := Tryz.underlying149
 a91 := Tryz.isAgg149
 z91 := Tryz.sizeOf149
 v91 := Tryz.zeroValue149
 t93 := Tryz.underlying151
 a93 := Tryz.isAgg151
 z93 := Tryz.sizeOf151
 v93 := Tryz.zeroValue151
 t130 := Tryz.underlying198
 a130 := Tryz.isAgg198
 z130 := Tryz.sizeOf198
 v130 := Tryz.zeroValue198
 t131 := Tryz.underlying199
 a131 := Tryz.isAgg199
 z131 := Tryz.sizeOf199
 v131 := Tryz.zeroValue199
 g14 := by kernel_rfl
 t5 := Tryz.underlying5
 a5 := Tryz.isAgg5
 z5 := Tryz.sizeOf5
 v5 := Tryz.zeroValue5
 t80 := Tryz.underlying43
 a80 := Tryz.isAgg43
 z80 := Tryz.sizeOf43
 v80 := Tryz.zeroValue43
 i0 := by kernel_rfl
 i3 := by kernel_rfl
 i4 := by kernel_rfl
 i5 := by kernel_rfl
 i9 := by kernel_rfl
 i20 := by kernel_rfl
 i37 := by kernel_rfl
 i75 := by kernel_rfl
 i80 := by kernel_rfl
 i91 := by kernel_rfl
 i93 := by kernel_rfl
 i130 := by kernel_rfl
 i131 := by kernel_rfl
 m14 := by kernel_rfl }
open Go.RowKit in
theorem Tryz.Buffer_WriteByte_k (B b : Nat) (bs : List Value) (c : Int) (w : World) (h : Lib.IsBuffer 151 5 B b bs w) (hBw : B ≤ w.heap.size) (h1 : ∀ v ∈ bs, v.oneCell' = true) (hlim : bs.length + 1 ≤ 140737488355328) :
  Calls Tryz.prog 110 #[.pointer (some ⟨b, 0, none⟩), .int .u8 c] w fun e w' => e = .returned .nilIface ∧ Lib.IsBuffer 151 5 B b (bs ++ [.int .u8 c]) w' ∧ Below B w w' ∧ Lib.OthersKept 5 (some b) w w' := Any.Buffer_WriteByte_k Tryz.laysM179 B b bs c w h hBw h1 hlim
open Go.RowKit in
theorem Tryz.Buffer_WriteString_k (B b : Nat) (bs : List Value) (s : ByteArray) (w : World) (h : Lib.IsBuffer 151 5 B b bs w) (hBw : B ≤ w.heap.size) (h1 : ∀ v ∈ bs, v.oneCell' = true) (hlim : bs.length + s.size ≤ 140737488355328) :
  Calls Tryz.prog 111 #[.pointer (some ⟨b, 0, none⟩), .string s] w fun e w' => e = .returned (.tuple #[.int .i64 s.size, .nilIface]) ∧ Lib.IsBuffer 151 5 B b (bs ++ Lib.byteCells s.data.toList) w' ∧ Below B w w' ∧ Lib.OthersKept 5 (some b) w w' := Any.Buffer_WriteString_k Tryz.laysM178 B b bs s w h hBw h1 hlim
def Tryz.laysGt11_ren : Go.Shelf.Ren := ⟨fun | 11 => 126 | 17 => 156 | 18 => 157 | 31 => 173 | 32 => 164 | 33 => 174 | 34 => 175 | 35 => 176 | 36 => 177 | 37 => 178 | 38 => 179 | 39 => 180 | 40 => 181 | 43 => 198 | 44 => 199 | 45 => 200 | 46 => 201 | 47 => 202 | 50 => 222 | n => n, fun | 45 => 211 | 3 => 3 | 4 => 4 | 47 => 74 | 0 => 0 | 56 => 124 | 58 => 22 | 61 => 236 | 60 => 235 | 65 => 199 | 5 => 5 | 9 => 9 | 67 => 259 | 71 => 47 | 73 => 278 | 74 => 44 | 43 => 62 | 26 => 239 | 38 => 258 | n => n, fun | n => n⟩
theorem Tryz.laysGt11 : Go.Proofs.LaysGt.n11 Tryz.prog Tryz.laysGt11_ren := {
 mixed := by kernel_rfl
 f11 := Tryz.func126.trans (congrArg some (by kernel_rfl))
 f17 := Tryz.func156.trans (congrArg some (by kernel_rfl))
 f18 := Tryz.func157.trans (congrArg some (by kernel_rfl))
 f31 := Tryz.func173.trans (congrArg some (by kernel_rfl))
 f32 := Tryz.func164.trans (congrArg some (by kernel_rfl))
 f33 := Tryz.func174.trans (congrArg some (by kernel_rfl))
 f34 := Tryz.func175.trans (congrArg some (by kernel_rfl))
 f35 := Tryz.func176.trans (congrArg some (by kernel_rfl))
 f36 := Tryz.func177.trans (congrArg some (by kernel_rfl))
 f37 := Tryz.func178.trans (congrArg some (by kernel_rfl))
 f38 := Tryz.func179.trans (congrArg some (by kernel_rfl))
 f39 := Tryz.func180.trans (congrArg some (by kernel_rfl))
 f40 := Tryz.func181.trans (congrArg some (by kernel_rfl))
 f43 := Tryz.func198.trans (congrArg some (by kernel_rfl))
 f44 := Tryz.func199.trans (congrArg some (by kernel_rfl))
 f45 := Tryz.func200.trans (congrArg some (by kernel_rfl))
 f46 := Tryz.func201.trans (congrArg some (by kernel_rfl))
 f47 := Tryz.func202.trans (congrArg some (by kernel_rfl))
 f50 := Tryz.func222.trans (congrArg some (by kernel_rfl))
 t0 := Tryz.underlying0
 a0 := Tryz.isAgg0
 z0 := Tryz.sizeOf0
 v0 := Tryz.zeroValue0
 i0 := by kernel_rfl
 t3 := Tryz.underlying3
 a3 := Tryz.isAgg3
 z3 := Tryz.sizeOf3
 v3 := Tryz.zeroValue3
 i3 := by kernel_rfl
 t4 := Tryz.underlying4
 a4 := Tryz.isAgg4
 z4 := Tryz.sizeOf4
 v4 := Tryz.zeroValue4
 i4 := by kernel_rfl
 t5 := Tryz.underlying5
 a5 := Tryz.isAgg5
 z5 := Tryz.sizeOf5
 v5 := Tryz.zeroValue5
 i5 := by kernel_rfl
 t9 := Tryz.underlying9
 a9 := Tryz.isAgg9
 z9 := Tryz.sizeOf9
 v9 := Tryz.zeroValue9
 i9 := by kernel_rfl
 t26 := Tryz.underlying239
 a26 := Tryz.isAgg239
 z26 := Tryz.sizeOf239
 v26 := Tryz.zeroValue239
 i26 := by kernel_rfl
 t38 := Tryz.underlying258
 a38 := Tryz.isAgg258
 z38 := Tryz.sizeOf258
 v38 := Tryz.zeroValue258
 i38 := by kernel_rfl
 t43 := Tryz.underlying62
 a43 := Tryz.isAgg62
 z43 := Tryz.sizeOf62
 v43 := Tryz.zeroValue62
 i43 := by kernel_rfl
 t45 := Tryz.underlying211
 a45 := Tryz.isAgg211
 z45 := Tryz.sizeOf211
 v45 := Tryz.zeroValue211
 i45 := by kernel_rfl
 t47 := Tryz.underlying74
 a47 := Tryz.isAgg74
 z47 := Tryz.sizeOf74
 v47 := Tryz.zeroValue74
 i47 := by kernel_rfl
 t56 := Tryz.underlying124
 a56 := Tryz.isAgg124
 z56 := Tryz.sizeOf124
 v56 := Tryz.zeroValue124
 i56 := by kernel_rfl
 t58 := Tryz.underlying22
 a58 := Tryz.isAgg22
 z58 := Tryz.sizeOf22
 v58 := Tryz.zeroValue22
 i58 := by kernel_rfl
 t60 := Tryz.underlying235
 a60 := Tryz.isAgg235
 z60 := Tryz.sizeOf235
 v60 := Tryz.zeroValue235
 i60 := by kernel_rfl
 t61 := Tryz.underlying236
 a61 := Tryz.isAgg236
 z61 := Tryz.sizeOf236
 v61 := Tryz.zeroValue236
 i61 := by kernel_rfl
 t65 := Tryz.underlying199
 a65 := Tryz.isAgg199
 z65 := Tryz.sizeOf199
 v65 := Tryz.zeroValue199
 i65 := by kernel_rfl
 t67 := Tryz.underlying259
 a67 := Tryz.isAgg259
 z67 := Tryz.sizeOf259
 v67 := Tryz.zeroValue259
 i67 := by kernel_rfl
 t71 := Tryz.underlying47
 a71 := Tryz.isAgg47
 z71 := Tryz.sizeOf47
 v71 := Tryz.zeroValue47
 i71 := by kernel_rfl
 t73 := Tryz.underlying278
 a73 := Tryz.isAgg278
 z73 := Tryz.sizeOf278
 v73 := Tryz.zeroValue278
 i73 := by kernel_rfl
 t74 := Tryz.underlying44
 a74 := Tryz.isAgg44
 z74 := Tryz.sizeOf44
 v74 := Tryz.zeroValue44
 i74 := by kernel_rfl }
open Go.RowKit Go.Lib Go.Sort in
theorem Tryz.sort_Sort_tiny {α : Type} [Inhabited α] (T : TypeId) (rv : Value) (gn : Nat) (rN : Reaches Tryz.prog T rv "Len" gn) (n : Nat) (hn : n ≤ 1) (w : World) (hlen : LenM Tryz.prog gn rv n w) :
  Calls Tryz.prog 126 #[.iface T rv] w fun e w' => e = .returned (.tuple #[]) ∧ ∃ q, w' = w.drewN q := Any.sort_Sort_tiny Tryz.laysGt11 T rv gn rN n hn w hlen
open Go.RowKit Go.Lib Go.Sort in
theorem Tryz.sort_Sort_sorted {α : Type} [Inhabited α] (T : TypeId) (rv : Value) (gn gl gs : Nat) (rN : Reaches Tryz.prog T rv "Len" gn) (rL : Reaches Tryz.prog T rv "Less" gl) (rS : Reaches Tryz.prog T rv "Swap" gs) (enc : α → Value) (lt : α → α → Bool) (hO : SWO lt) (blk off : Nat) (d : Array α) (h2 : 2 ≤ d.size) (hsz : d.size < 4611686018427387904) (w : World) (hlen : LenM Tryz.prog gn rv d.size w) (hless : LessM Tryz.prog gl rv enc lt blk off d.size w) (hswap : SwapM Tryz.prog gs rv enc blk off d.size) (hH : Holds enc w blk off d) (hblk : blk < w.heap.size) :
  Calls Tryz.prog 126 #[.iface T rv] w fun e w' => e = .returned (.tuple #[]) ∧ ∃ d' n os, PermIn 0 d.size d d' ∧ SortedIn lt 0 d.size d' ∧ w' = grow (putRow enc (Sort.ahead w n) blk off d') os := Any.sort_Sort_sorted Tryz.laysGt11 T rv gn gl gs rN rL rS enc lt hO blk off d h2 hsz w hlen hless hswap hH hblk
def Tryz.lays197_ren : Go.Shelf.Ren := ⟨fun | 197 => 112 | 260 => 149 | n => n, fun | 9 => 9 | 21 => 21 | 3 => 3 | 4 => 4 | 5 => 5 | 105 => 153 | 119 => 206 | 0 => 0 | 46 => 74 | 139 => 229 | 138 => 228 | n => n, fun | 3 => 6 | 4 => 7 | n => n⟩
theorem Tryz.lays197 : Go.Proofs.Lays.n197 Tryz.prog Tryz.lays197_ren := {
 mixed := by kernel_rfl
 f197 := Tryz.func112.trans (congrArg some (by kernel_rfl))
 f260 := Tryz.func149.trans (congrArg some (by kernel_rfl))
 t0 := Tryz.underlying0
 a0 := Tryz.isAgg0
 z0 := Tryz.sizeOf0
 v0 := Tryz.zeroValue0
 t3 := Tryz.underlying3
 a3 := Tryz.isAgg3
 z3 := Tryz.sizeOf3
 v3 := Tryz.zeroValue3
 t4 := Tryz.underlying4
 a4 := Tryz.isAgg4
 z4 := Tryz.sizeOf4
 v4 := Tryz.zeroValue4
 t5 := Tryz.underlying5
 a5 := Tryz.isAgg5
 z5 := Tryz.sizeOf5
 v5 := Tryz.zeroValue5
 t9 := Tryz.underlying9
 a9 := Tryz.isAgg9
 z9 := Tryz.sizeOf9
 v9 := Tryz.zeroValue9
 t21 := Tryz.underlying21
 a21 := Tryz.isAgg21
 z21 := Tryz.sizeOf21
 v21 := Tryz.zeroValue21
 t46 := Tryz.underlying74
 a46 := Tryz.isAgg74
 z46 := Tryz.sizeOf74
 v46 := Tryz.zeroValue74
 t105 := Tryz.underlying153
 a105 := Tryz.isAgg153
 z105 := Tryz.sizeOf153
 v105 := Tryz.zeroValue153
 t119 := Tryz.underlying206
 a119 := Tryz.isAgg206
 z119 := Tryz.sizeOf206
 t138 := Tryz.underlying228
 a138 := Tryz.isAgg228
 z138 := Tryz.sizeOf228
 v138 := Tryz.zeroValue228
 t139 := Tryz.underlying229
 a139 := Tryz.isAgg229
 z139 := Tryz.sizeOf229
 v139 := Tryz.zeroValue229
 g3 := by kernel_rfl
 g4 := by kernel_rfl }
def Tryz.lays264_ren : Go.Shelf.Ren := ⟨fun | 264 => 223 | n => n, fun | 53 => 22 | 46 => 74 | n => n, fun | n => n⟩
theorem Tryz.lays264 : Go.Proofs.Lays.n264 Tryz.prog Tryz.lays264_ren := {
 mixed := by kernel_rfl
 f264 := Tryz.func223.trans (congrArg some (by kernel_rfl))
 t46 := Tryz.underlying74
 a46 := Tryz.isAgg74
 z46 := Tryz.sizeOf74
 v46 := Tryz.zeroValue74
 t53 := Tryz.underlying22
 a53 := Tryz.isAgg22
 z53 := Tryz.sizeOf22
 v53 := Tryz.zeroValue22 }
open Go.RowKit Go.Lib in
theorem Tryz.bits_Mul64 (x y : Nat) (hx : x < 18446744073709551616) (hy : y < 18446744073709551616) (w : World) :
  Calls Tryz.prog 223 #[.int .u64 x, .int .u64 y] w fun e w' => e = .returned (.tuple #[.int .u64 ((x * y / 18446744073709551616 : Nat) : Int), .int .u64 ((x * y % 18446744073709551616 : Nat) : Int)]) ∧ w' = w := Any.bits_Mul64 Tryz.lays264 x y hx hy w
open Go.RowKit Go.Lib in
theorem Tryz.utf8_DecodeRuneInString (s : ByteArray) (w : World) (hT : Lib.Utf8Tabs 6 7 w) :
  Calls Tryz.prog 112 #[.string s] w fun e w' => e = .returned (.tuple #[.int .i32 (Lib.decodeGo s).1, .int .i64 (Lib.decodeGo s).2]) ∧ Below w.heap.size w w' := Any.utf8_DecodeRuneInString Tryz.lays197 s w hT
def Tryz.lays187_ren : Go.Shelf.Ren := ⟨fun | 187 => 27 | 255 => 60 | n => n, fun | 37 => 23 | 5 => 5 | 3 => 3 | n => n, fun | n => n⟩
theorem Tryz.lays187 : Go.Proofs.Lays.n187 Tryz.prog Tryz.lays187_ren := {
 mixed := by kernel_rfl
 f187 := Tryz.func27.trans (congrArg some (by kernel_rfl))
 f255 := Tryz.func60.trans (congrArg some (by kernel_rfl))
 t3 := Tryz.underlying3
 a3 := Tryz.isAgg3
 z3 := Tryz.sizeOf3
 v3 := Tryz.zeroValue3
 t5 := Tryz.underlying5
 a5 := Tryz.isAgg5
 z5 := Tryz.sizeOf5
 v5 := Tryz.zeroValue5
 t37 := Tryz.underlying23
 a37 := Tryz.isAgg23
 z37 := Tryz.sizeOf23
 v37 := Tryz.zeroValue23 }
theorem Tryz.bytes_IndexByte (b o n c : Nat) (xs : List Int) (cv : Int) (w : World) (hx : xs.length = n) (hc : ∀ i, i < n → w.cell? ⟨b, o + i, none⟩ = some (.int .u8 (xs.getD i 0))) :
  Calls Tryz.prog 27 #[.slice (some ⟨b, o, none⟩) n c, .int .u8 cv] w fun e w' => e = .returned (.int .i64 (Lib.indexByte (Lib.bytesOf xs) cv.toNat.toUInt8)) ∧ w' = w := Any.bytes_IndexByte Tryz.lays187 b o n c xs cv w hx hc
end Go.Proofs
namespace Go.Proofs.YtkeakdjbidbegaaGreatDoor
open Go.RowKit
open Go.Proofs.YtkeakdjbidbegaaGreatDoorW.PrintWords
theorem bool2_calls (b : Bool) (w : World) : Calls Tryz.prog 224 #[.bool b] w fun e w' => e = .returned (.int .u64 (if b then 1 else 0)) ∧ w' = w := by
 cases b
 all_goals
  go_enter Tryz.func224, Tryz.ntmps224
  go_wp2
  go_ret
  exact ⟨rfl, rfl⟩
theorem skewed_calls (e : Int) (h0 : -3000 ≤ e) (h1 : e ≤ 3000) (w : World) : Calls Tryz.prog 206 #[.int .i64 e] w fun e' w' => e' = .returned (.int .i64 ((e * 631305 - 261663) / 2097152)) ∧ w' = w := by
 go_enter Tryz.func206, Tryz.ntmps206
 go_wp2
 go_ret
 exact ⟨rfl, rfl⟩
theorem log10Pow2_calls (e : Int) (h0 : -3000 ≤ e) (h1 : e ≤ 3000) (w : World) : Calls Tryz.prog 163 #[.int .i64 e] w fun e' w' => e' = .returned (.int .i64 (e * 78913 / 262144)) ∧ w' = w := by
 go_enter Tryz.func163, Tryz.ntmps163
 go_wp2
 go_ret
 exact ⟨rfl, rfl⟩
theorem log2Pow10_calls (e : Int) (h0 : -3000 ≤ e) (h1 : e ≤ 3000) (w : World) : Calls Tryz.prog 208 #[.int .i64 e] w fun e' w' => e' = .returned (.int .i64 (e * 108853 / 32768)) ∧ w' = w := by
 go_enter Tryz.func208, Tryz.ntmps208
 go_wp2
 go_ret
 exact ⟨rfl, rfl⟩
theorem nudge_calls (x d : Int) : ∃ r : Int, (0 ≤ r ∧ r < 18446744073709551616) ∧ ∀ w, Calls Tryz.prog 210 #[.int .u64 x, .int .i64 d] w fun e w' => e = .returned (.int .u64 r) ∧ w' = w := by
 refine ⟨IntKind.u64.wrap (x + IntKind.u64.wrap d), ?_, fun w => ?_⟩
 ·simp [IntKind.wrap, IntKind.bits, IntKind.signed]; omega
 go_enter Tryz.func210, Tryz.ntmps210
 go_wp2
 go_ret
 exact ⟨rfl, rfl⟩
structure TabW (hi lo : Nat → Int) (w : World) : Prop where
 hi : ∀ i, i < 696 → w.cell? ⟨12, i * 2, none⟩ = some (.int .u64 (hi i))
 lo : ∀ i, i < 696 → w.cell? ⟨12, i * 2 + 1, none⟩ = some (.int .u64 (lo i))
theorem TabW.below {hi lo : Nat → Int} {w w' : World} (h : TabW hi lo w) (hb : Below w.heap.size w w') : TabW hi lo w' :=
 ⟨fun i hi' => (hb.cell (World.block_lt_of_cell? w _ (h.hi i hi'))).trans (h.hi i hi'), fun i hi' => (hb.cell (World.block_lt_of_cell? w _ (h.lo i hi'))).trans (h.lo i hi')⟩
theorem prescale_calls (hi lo : Nat → Int) (e p lp : Int) (W : World) (hT : TabW hi lo W) (h0 : -348 ≤ p) (h1 : p < 348) (e0 : -3000 ≤ e) (e1 : e ≤ 3000) (l0 : -3000 ≤ lp) (l1 : lp ≤ 3000) :
  Calls Tryz.prog 207 #[.pointer (some ⟨W.heap.size, 0, none⟩), .int .i64 e, .int .i64 p, .int .i64 lp] (W.alloc (.cells #[.int .u64 0, .int .u64 0, .int .i64 0] 268)) fun e' w' =>
   e' = .returned (.tuple #[]) ∧ w' = W.alloc (.cells #[.int .u64 (hi (p + 348).toNat), .int .u64 (lo (p + 348).toNat), .int .i64 (-(e + lp + 3))] 268) := by
 have t1 := hT.hi (p + 348).toNat (by omega)
 have t2 := hT.lo (p + 348).toNat (by omega)
 have hg := World.block_lt_of_cell? W _ t1
 simp only at hg
 go_enter Tryz.func207, Tryz.ntmps207
 go_wp2
 exact Great.bodyPost_end0 (by rfl) rfl ⟨rfl, rfl⟩
theorem ceil_calls (x : Int) : ∃ r : Int, (0 ≤ r ∧ r < 18446744073709551616) ∧ ∀ w, Calls Tryz.prog 211 #[.int .u64 x] w fun e w' => e = .returned (.int .u64 r) ∧ w' = w := by
 refine ⟨IntKind.u64.wrap (x + 3) / 4, ?_, fun w => ?_⟩
 ·simp [IntKind.wrap, IntKind.bits, IntKind.signed]; omega
 have h : 0 ≤ IntKind.u64.wrap (x + 3) := by simp [IntKind.wrap, IntKind.bits, IntKind.signed]; omega
 go_enter Tryz.func211, Tryz.ntmps211
 go_wp2
 go_ret
 exact ⟨rfl, rfl⟩
theorem floor_calls (x : Int) (h0 : 0 ≤ x) (h1 : x < 18446744073709551616) : ∃ r : Int, (0 ≤ r ∧ r < 18446744073709551616) ∧ ∀ w, Calls Tryz.prog 212 #[.int .u64 x] w fun e w' => e = .returned (.int .u64 r) ∧ w' = w := by
 refine ⟨x / 4, by omega, fun w => ?_⟩
 go_enter Tryz.func212, Tryz.ntmps212
 go_wp2
 go_ret
 exact ⟨rfl, rfl⟩
theorem round_calls (x : Int) (h0 : 0 ≤ x) (h1 : x < 18446744073709551616) : ∃ r : Int, (0 ≤ r ∧ r < 18446744073709551616) ∧ ∀ w, Calls Tryz.prog 213 #[.int .u64 x] w fun e w' => e = .returned (.int .u64 r) ∧ w' = w := by
 obtain ⟨B, hB⟩ : ∃ B, bits .and .u64 (x / 4) 1 = B := ⟨_, rfl⟩
 have b0 : 0 ≤ B := hB ▸ bits_lo_u64 _ _ _
 have b1 : B ≤ 18446744073709551615 := hB ▸ bits_hi_u64 _ _ _
 obtain ⟨Z, hZ⟩ : ∃ Z, IntKind.u64.wrap (IntKind.u64.wrap (x + 1) + B) = Z := ⟨_, rfl⟩
 have z0 : 0 ≤ Z ∧ Z < 18446744073709551616 := by rw [← hZ]; simp [IntKind.wrap, IntKind.bits, IntKind.signed]; omega
 refine ⟨Z / 4, by omega, fun w => ?_⟩
 go_enter Tryz.func213, Tryz.ntmps213
 go_wp2
 go_ret
 exact ⟨rfl, rfl⟩
theorem mul_calls (x y : Int) (h0 : 0 ≤ x) (h1 : x < 18446744073709551616) (g0 : 0 ≤ y) (g1 : y < 18446744073709551616) : ∃ h l : Int, (0 ≤ h ∧ h < 18446744073709551616) ∧ (0 ≤ l ∧ l < 18446744073709551616) ∧
  ∀ w, Calls Tryz.prog 223 #[.int .u64 x, .int .u64 y] w fun e w' => e = .returned (.tuple #[.int .u64 h, .int .u64 l]) ∧ w' = w := by
 obtain ⟨X, rfl⟩ := Int.eq_ofNat_of_zero_le h0
 obtain ⟨Y, rfl⟩ := Int.eq_ofNat_of_zero_le g0
 refine ⟨((X * Y / 18446744073709551616 : Nat) : Int), ((X * Y % 18446744073709551616 : Nat) : Int), ?_, ?_, fun w => Tryz.bits_Mul64 X Y (by omega) (by omega) w⟩
 ·refine ⟨by omega, ?_⟩
  have : X * Y / 18446744073709551616 < 18446744073709551616 := by
   rw [Nat.div_lt_iff_lt_mul (by decide)]
   exact Nat.mul_lt_mul_of_le_of_lt (by omega) (by omega) (by decide)
  omega
 ·omega
theorem uscale_calls (x hi lo s : Int) (h0 : 0 ≤ x) (h1 : x < 18446744073709551616) (a0 : 0 ≤ hi) (a1 : hi < 18446744073709551616) (b0 : 0 ≤ lo) (b1 : lo < 18446744073709551616) (s0 : 0 ≤ s) (s1 : s ≤ 10000) : ∃ r : Int, (0 ≤ r ∧ r < 18446744073709551616) ∧
  ∀ b w, w.cell? ⟨b, 0, none⟩ = some (.int .u64 hi) → w.cell? ⟨b, 1, none⟩ = some (.int .u64 lo) → w.cell? ⟨b, 2, none⟩ = some (.int .i64 s) →
   Calls Tryz.prog 209 #[.int .u64 x, .pointer (some ⟨b, 0, none⟩)] w fun e w' => e = .returned (.int .u64 r) ∧ Below w.heap.size w w' := by
 obtain ⟨H, L, ⟨H0, H1⟩, ⟨L0, L1⟩, hm⟩ := mul_calls x hi h0 h1 a0 a1
 obtain ⟨M, N, ⟨M0, M1⟩, ⟨N0, N1⟩, hn⟩ := mul_calls x lo h0 h1 b0 b1
 have es : bits .and .i64 s 63 = s % 64 := and_mask 6 (by decide) s s0 (by omega)
 obtain ⟨S, hS⟩ : ∃ S : Nat, s % 64 = S := ⟨(s % 64).toNat, by omega⟩
 rw [hS] at es
 have S0 : S < 64 := by omega
 have HM := Lib.hid hm
 have HN := Lib.hid hn
 clear hS hm hn
 obtain ⟨R1, hR1⟩ : ∃ R1, H / 2 ^ S = R1 := ⟨_, rfl⟩
 have hR1r : 0 ≤ R1 ∧ R1 ≤ H := by rw [← hR1]; exact ⟨Int.ediv_nonneg H0 (Int.le_of_lt (Int.pow_pos (by decide))), Int.ediv_le_self _ H0⟩
 cases hC : (IntKind.u64.wrap (R1 * 2 ^ S) != H) with
 | true =>
  refine ⟨bits BinOp.or IntKind.u64 R1 1, ⟨bits_lo_u64 _ _ _, by have := bits_hi_u64 .or R1 1; omega⟩, fun b w c0 c1 c2 => ?_⟩
  go_enter Tryz.func209, Tryz.ntmps209
  go_wp2_with fail
  refine (HM.out _).mono ?_
  rintro e w1 ⟨rfl, rfl⟩
  go_wp2_with fail
  go_ret
  exact ⟨rfl, Below.refl _ _⟩
 | false =>
  obtain ⟨D, hD⟩ : ∃ D, IntKind.u64.wrap (L - M) = D := ⟨_, rfl⟩
  have hD0 : 0 ≤ D ∧ D < 18446744073709551616 := by rw [← hD]; simp only [IntKind.wrap, IntKind.bits, IntKind.signed]; simp; omega
  by_cases q1 : L < M
  ·obtain ⟨G, hG⟩ : ∃ G, IntKind.u64.wrap (H - 1) = G := ⟨_, rfl⟩
   have hG0 : 0 ≤ G ∧ G < 18446744073709551616 := by rw [← hG]; simp only [IntKind.wrap, IntKind.bits, IntKind.signed]; simp; omega
   obtain ⟨R2, hR2⟩ : ∃ R2, G / 2 ^ S = R2 := ⟨_, rfl⟩
   have hR2r : 0 ≤ R2 ∧ R2 ≤ G := by rw [← hR2]; exact ⟨Int.ediv_nonneg hG0.1 (Int.le_of_lt (Int.pow_pos (by decide))), Int.ediv_le_self _ hG0.1⟩
   by_cases q2 : 1 < D
   ·refine ⟨bits BinOp.or IntKind.u64 R2 1, ⟨bits_lo_u64 _ _ _, by have := bits_hi_u64 .or R2 1; omega⟩, fun b w c0 c1 c2 => ?_⟩
    go_enter Tryz.func209, Tryz.ntmps209
    go_wp2_with fail
    refine (HM.out _).mono ?_
    rintro e w1 ⟨rfl, rfl⟩
    go_wp2_with fail
    refine (HN.out _).mono ?_
    rintro e w1 ⟨rfl, rfl⟩
    go_wp2_with fail
    refine (bool2_calls _ _).mono ?_
    rintro e w1 ⟨rfl, rfl⟩
    go_wp2_with fail
    go_region_with (go_at_call 224; (with_reducible refine (bool2_calls _ _).mono ?_); rintro e w1 ⟨rfl, rfl⟩)
    all_goals go_wp2
    all_goals go_ret
    all_goals exact ⟨rfl, (Below.refl _ _).drew⟩
   ·refine ⟨bits BinOp.or IntKind.u64 R2 0, ⟨bits_lo_u64 _ _ _, by have := bits_hi_u64 .or R2 0; omega⟩, fun b w c0 c1 c2 => ?_⟩
    go_enter Tryz.func209, Tryz.ntmps209
    go_wp2_with fail
    refine (HM.out _).mono ?_
    rintro e w1 ⟨rfl, rfl⟩
    go_wp2_with fail
    refine (HN.out _).mono ?_
    rintro e w1 ⟨rfl, rfl⟩
    go_wp2_with fail
    refine (bool2_calls _ _).mono ?_
    rintro e w1 ⟨rfl, rfl⟩
    go_wp2_with fail
    go_region_with (go_at_call 224; (with_reducible refine (bool2_calls _ _).mono ?_); rintro e w1 ⟨rfl, rfl⟩)
    all_goals go_wp2
    all_goals go_ret
    all_goals exact ⟨rfl, (Below.refl _ _).drew⟩
  ·obtain ⟨G, hG⟩ : ∃ G, IntKind.u64.wrap (H) = G := ⟨_, rfl⟩
   have hG0 : 0 ≤ G ∧ G < 18446744073709551616 := by rw [← hG]; simp only [IntKind.wrap, IntKind.bits, IntKind.signed]; simp; omega
   obtain ⟨R2, hR2⟩ : ∃ R2, G / 2 ^ S = R2 := ⟨_, rfl⟩
   have hR2r : 0 ≤ R2 ∧ R2 ≤ G := by rw [← hR2]; exact ⟨Int.ediv_nonneg hG0.1 (Int.le_of_lt (Int.pow_pos (by decide))), Int.ediv_le_self _ hG0.1⟩
   by_cases q2 : 1 < D
   ·refine ⟨bits BinOp.or IntKind.u64 R2 1, ⟨bits_lo_u64 _ _ _, by have := bits_hi_u64 .or R2 1; omega⟩, fun b w c0 c1 c2 => ?_⟩
    go_enter Tryz.func209, Tryz.ntmps209
    go_wp2_with fail
    refine (HM.out _).mono ?_
    rintro e w1 ⟨rfl, rfl⟩
    go_wp2_with fail
    refine (HN.out _).mono ?_
    rintro e w1 ⟨rfl, rfl⟩
    go_wp2_with fail
    refine (bool2_calls _ _).mono ?_
    rintro e w1 ⟨rfl, rfl⟩
    go_wp2_with fail
    go_region_with (go_at_call 224; (with_reducible refine (bool2_calls _ _).mono ?_); rintro e w1 ⟨rfl, rfl⟩)
    all_goals go_wp2
    all_goals go_ret
    all_goals exact ⟨rfl, (Below.refl _ _).drew⟩
   ·refine ⟨bits BinOp.or IntKind.u64 R2 0, ⟨bits_lo_u64 _ _ _, by have := bits_hi_u64 .or R2 0; omega⟩, fun b w c0 c1 c2 => ?_⟩
    go_enter Tryz.func209, Tryz.ntmps209
    go_wp2_with fail
    refine (HM.out _).mono ?_
    rintro e w1 ⟨rfl, rfl⟩
    go_wp2_with fail
    refine (HN.out _).mono ?_
    rintro e w1 ⟨rfl, rfl⟩
    go_wp2_with fail
    refine (bool2_calls _ _).mono ?_
    rintro e w1 ⟨rfl, rfl⟩
    go_wp2_with fail
    go_region_with (go_at_call 224; (with_reducible refine (bool2_calls _ _).mono ?_); rintro e w1 ⟨rfl, rfl⟩)
    all_goals go_wp2
    all_goals go_ret
    all_goals exact ⟨rfl, (Below.refl _ _).drew⟩
theorem u64_range (x : Int) : 0 ≤ IntKind.u64.wrap x ∧ IntKind.u64.wrap x < 18446744073709551616 := by
 simp only [IntKind.wrap, IntKind.bits, IntKind.signed]; simp; omega
theorem shortFloat_b (hi lo : Nat → Int) (hhi : ∀ i, 0 ≤ hi i ∧ hi i < 18446744073709551616) (hlo : ∀ i, 0 ≤ lo i ∧ lo i < 18446744073709551616) (m e : Int) (h0 : 0 ≤ m) (h1 : m < 18446744073709551616) (e1 : e ≤ 960) (hm : m ≠ 9223372036854775808) (he : -1085 ≤ e) :
  ∃ d p : Int, (0 ≤ d ∧ d < 18446744073709551616) ∧ (-360 ≤ p ∧ p ≤ 360) ∧ ∀ w, TabW hi lo w → Calls Tryz.prog 194 #[.int .u64 m, .int .i64 e] w fun e' w' => e' = .returned (.tuple #[.int .u64 d, .int .i64 p]) ∧ Below w.heap.size w w' := by
 have hmb : (m == 9223372036854775808) = false := by rw [beq_eq_false_iff_ne]; exact hm
 have d1 : decide (-1085 ≤ e) = true := decide_eq_true he
 obtain ⟨P, hPn⟩ : ∃ P, -((e + 11) * 78913 / 262144) = P := ⟨_, rfl⟩
 obtain ⟨O, hO⟩ : ∃ O, bits .and .i64 (m / 2048) 1 = O := ⟨_, rfl⟩
 have hO' : O = m / 2048 % 2 := by rw [← hO]; exact and_mask 1 (by decide) _ (by omega) (by omega)
 have hO2 : 0 ≤ O ∧ O ≤ 1 := by omega
 clear hO'
 obtain ⟨X, hX⟩ : ∃ X, IntKind.u64.wrap (m - 1024) = X := ⟨_, rfl⟩
 obtain ⟨Y, hY⟩ : ∃ Y, IntKind.u64.wrap (m + 1024) = Y := ⟨_, rfl⟩
 have X0 : 0 ≤ X ∧ X < 18446744073709551616 := hX ▸ u64_range _
 have Y0 : 0 ≤ Y ∧ Y < 18446744073709551616 := hY ▸ u64_range _
 have HPn : Hid ((e + 11) * 78913 / 262144 = -P) := by show _ = _; omega
 have hLp : Hid (-3000 ≤ P * 108853 / 32768 ∧ P * 108853 / 32768 ≤ 3000 ∧ 0 ≤ -(e + P * 108853 / 32768 + 3) ∧ -(e + P * 108853 / 32768 + 3) ≤ 10000) := by show _ ∧ _; omega
 obtain ⟨LP, hLP⟩ : ∃ LP, P * 108853 / 32768 = LP := ⟨_, rfl⟩
 have hP : Hid (-348 ≤ P ∧ P < 348) := by show _ ∧ _; omega
 have hPb : -400 ≤ -P ∧ -P ≤ 399 := by omega
 rw [hLP] at hLp
 obtain ⟨S, hS⟩ : ∃ S, -(e + LP + 3) = S := ⟨_, rfl⟩
 rw [hS] at hLp
 obtain ⟨TH, hTH⟩ : ∃ TH, hi (P + 348).toNat = TH := ⟨_, rfl⟩
 obtain ⟨TL, hTL⟩ : ∃ TL, lo (P + 348).toNat = TL := ⟨_, rfl⟩
 have hth := hhi (P + 348).toNat
 have htl := hlo (P + 348).toNat
 rw [hTH] at hth
 rw [hTL] at htl
 obtain ⟨r1, ⟨a1, b1⟩, u1⟩ := uscale_calls X TH TL S (by omega) (by omega) hth.1 hth.2 htl.1 htl.2 hLp.out.2.2.1 hLp.out.2.2.2
 obtain ⟨n1, ⟨a2, b2⟩, u2⟩ := nudge_calls r1 O
 obtain ⟨c1, ⟨a3, b3⟩, u3⟩ := ceil_calls n1
 obtain ⟨r2, ⟨a4, b4⟩, u4⟩ := uscale_calls Y TH TL S (by omega) (by omega) hth.1 hth.2 htl.1 htl.2 hLp.out.2.2.1 hLp.out.2.2.2
 obtain ⟨n2, ⟨a5, b5⟩, u5⟩ := nudge_calls r2 (-O)
 obtain ⟨c2, ⟨a6, b6⟩, u6⟩ := floor_calls n2 a5 b5
 obtain ⟨r3, ⟨a7, b7⟩, u7⟩ := uscale_calls m TH TL S (by omega) (by omega) hth.1 hth.2 htl.1 htl.2 hLp.out.2.2.1 hLp.out.2.2.2
 obtain ⟨c3, ⟨a8, b8⟩, u8⟩ := round_calls r3 a7 b7
 have U1 := Lib.hid u1
 clear u1
 have U2 := Lib.hid u2
 clear u2
 have U3 := Lib.hid u3
 clear u3
 have U4 := Lib.hid u4
 clear u4
 have U5 := Lib.hid u5
 clear u5
 have U6 := Lib.hid u6
 clear u6
 have U7 := Lib.hid u7
 clear u7
 have U8 := Lib.hid u8
 clear u8
 have HTH := Lib.hid hTH
 have HTL := Lib.hid hTL
 have HHI := Lib.hid hhi
 have HLO := Lib.hid hlo
 clear hTH hTL hhi hlo hth htl
 have HSS := Lib.hid hS
 have HLL := Lib.hid hLP
 clear hS hLP
 by_cases k1 : c1 ≤ c2 / 10 * 10
 ·have k1d : decide (c1 ≤ c2 / 10 * 10) = true := decide_eq_true k1
  refine ⟨c2 / 10, -(P - 1), by omega, by omega, ?_⟩
  intro w hT
  have HT := Lib.hid hT
  clear hT
  go_enter Tryz.func194, Tryz.ntmps194
  go_wp2_with fail
  refine (log10Pow2_calls (e + 11) (by omega) (by omega) _).mono ?_
  rintro e' w0 ⟨rfl, rfl⟩
  rw [HPn.out]
  go_wp2_with fail
  refine (log2Pow10_calls P (by have := hP.out; omega) (by have := hP.out; omega) _).mono ?_
  rintro e' w1 ⟨rfl, rfl⟩
  rw [HLL.out]
  go_wp2_with fail
  refine (prescale_calls hi lo e P LP w0 HT.out hP.out.1 hP.out.2 (by omega) (by omega) hLp.out.1 hLp.out.2.1).mono ?_
  rintro e' w2 ⟨rfl, rfl⟩
  rw [HTH.out, HTL.out, HSS.out]
  go_wp2_with fail
  refine (U1.out _ _ (by simp [go_sem]) (by simp [go_sem]) (by simp [go_sem])).mono ?_
  rintro e' w3 ⟨rfl, hb3⟩
  have q0 : w3.cell? ⟨w0.heap.size, 0, none⟩ = some (.int .u64 TH) := (hb3.cell (by simp)).trans (by simp [go_sem])
  have q1 : w3.cell? ⟨w0.heap.size, 1, none⟩ = some (.int .u64 TL) := (hb3.cell (by simp)).trans (by simp [go_sem])
  have q2 : w3.cell? ⟨w0.heap.size, 2, none⟩ = some (.int .i64 S) := (hb3.cell (by simp)).trans (by simp [go_sem])
  have B3 : Hid (Below w0.heap.size w0 w3) := ((Below.refl _ _).alloc (Nat.le_refl _) _).trans (hb3.mono (by simp))
  have hz3 : w0.heap.size < w3.heap.size := by have := hb3.size; simp at this; omega
  have Q0 := Lib.hid q0
  have Q1 := Lib.hid q1
  have Q2 := Lib.hid q2
  clear hb3 q0 q1 q2
  go_wp2_with fail
  refine (U2.out _).mono ?_
  rintro e' w4 ⟨rfl, rfl⟩
  go_wp2_with fail
  refine (U3.out _).mono ?_
  rintro e' w4 ⟨rfl, rfl⟩
  go_wp2_with fail
  refine (U4.out _ _ Q0.out Q1.out Q2.out).mono ?_
  rintro e' w5 ⟨rfl, hb5⟩
  have Q3 : Hid (w5.cell? ⟨w0.heap.size, 0, none⟩ = some (.int .u64 TH)) := (hb5.cell hz3).trans Q0.out
  have Q4 : Hid (w5.cell? ⟨w0.heap.size, 1, none⟩ = some (.int .u64 TL)) := (hb5.cell hz3).trans Q1.out
  have Q5 : Hid (w5.cell? ⟨w0.heap.size, 2, none⟩ = some (.int .i64 S)) := (hb5.cell hz3).trans Q2.out
  have B5 : Hid (Below w0.heap.size w0 w5) := B3.out.trans (hb5.mono (by omega))
  clear hb5
  go_wp2_with fail
  refine (U5.out _).mono ?_
  rintro e' w6 ⟨rfl, rfl⟩
  go_wp2_with fail
  refine (U6.out _).mono ?_
  rintro e' w6 ⟨rfl, rfl⟩
  go_wp2
  go_ret2
  exact ⟨rfl, B5.out⟩
 ·have k1d : decide (c1 ≤ c2 / 10 * 10) = false := decide_eq_false k1
  by_cases k2 : c1 < c2
  ·have k2d : decide (c1 < c2) = true := decide_eq_true k2
   refine ⟨c3, -P, by omega, by omega, ?_⟩
   intro w hT
   have HT := Lib.hid hT
   clear hT
   go_enter Tryz.func194, Tryz.ntmps194
   go_wp2_with fail
   refine (log10Pow2_calls (e + 11) (by omega) (by omega) _).mono ?_
   rintro e' w0 ⟨rfl, rfl⟩
   rw [HPn.out]
   go_wp2_with fail
   refine (log2Pow10_calls P (by have := hP.out; omega) (by have := hP.out; omega) _).mono ?_
   rintro e' w1 ⟨rfl, rfl⟩
   rw [HLL.out]
   go_wp2_with fail
   refine (prescale_calls hi lo e P LP w0 HT.out hP.out.1 hP.out.2 (by omega) (by omega) hLp.out.1 hLp.out.2.1).mono ?_
   rintro e' w2 ⟨rfl, rfl⟩
   rw [HTH.out, HTL.out, HSS.out]
   go_wp2_with fail
   refine (U1.out _ _ (by simp [go_sem]) (by simp [go_sem]) (by simp [go_sem])).mono ?_
   rintro e' w3 ⟨rfl, hb3⟩
   have q0 : w3.cell? ⟨w0.heap.size, 0, none⟩ = some (.int .u64 TH) := (hb3.cell (by simp)).trans (by simp [go_sem])
   have q1 : w3.cell? ⟨w0.heap.size, 1, none⟩ = some (.int .u64 TL) := (hb3.cell (by simp)).trans (by simp [go_sem])
   have q2 : w3.cell? ⟨w0.heap.size, 2, none⟩ = some (.int .i64 S) := (hb3.cell (by simp)).trans (by simp [go_sem])
   have B3 : Hid (Below w0.heap.size w0 w3) := ((Below.refl _ _).alloc (Nat.le_refl _) _).trans (hb3.mono (by simp))
   have hz3 : w0.heap.size < w3.heap.size := by have := hb3.size; simp at this; omega
   have Q0 := Lib.hid q0
   have Q1 := Lib.hid q1
   have Q2 := Lib.hid q2
   clear hb3 q0 q1 q2
   go_wp2_with fail
   refine (U2.out _).mono ?_
   rintro e' w4 ⟨rfl, rfl⟩
   go_wp2_with fail
   refine (U3.out _).mono ?_
   rintro e' w4 ⟨rfl, rfl⟩
   go_wp2_with fail
   refine (U4.out _ _ Q0.out Q1.out Q2.out).mono ?_
   rintro e' w5 ⟨rfl, hb5⟩
   have Q3 : Hid (w5.cell? ⟨w0.heap.size, 0, none⟩ = some (.int .u64 TH)) := (hb5.cell hz3).trans Q0.out
   have Q4 : Hid (w5.cell? ⟨w0.heap.size, 1, none⟩ = some (.int .u64 TL)) := (hb5.cell hz3).trans Q1.out
   have Q5 : Hid (w5.cell? ⟨w0.heap.size, 2, none⟩ = some (.int .i64 S)) := (hb5.cell hz3).trans Q2.out
   have B5 : Hid (Below w0.heap.size w0 w5) := B3.out.trans (hb5.mono (by omega))
   clear hb5
   go_wp2_with fail
   refine (U5.out _).mono ?_
   rintro e' w6 ⟨rfl, rfl⟩
   go_wp2_with fail
   refine (U6.out _).mono ?_
   rintro e' w6 ⟨rfl, rfl⟩
   go_wp2_with fail
   refine (U7.out _ _ Q3.out Q4.out Q5.out).mono ?_
   rintro e' w7 ⟨rfl, hb7⟩
   have B7 : Hid (Below w0.heap.size w0 w7) := B5.out.trans (hb7.mono (by have := B5.out.size; omega))
   clear hb7
   go_wp2_with fail
   refine (U8.out _).mono ?_
   rintro e' w8 ⟨rfl, rfl⟩
   go_wp2
   go_ret2
   exact ⟨rfl, B7.out⟩
  ·have k2d : decide (c1 < c2) = false := decide_eq_false k2
   refine ⟨c1, -P, by omega, by omega, ?_⟩
   intro w hT
   have HT := Lib.hid hT
   clear hT
   go_enter Tryz.func194, Tryz.ntmps194
   go_wp2_with fail
   refine (log10Pow2_calls (e + 11) (by omega) (by omega) _).mono ?_
   rintro e' w0 ⟨rfl, rfl⟩
   rw [HPn.out]
   go_wp2_with fail
   refine (log2Pow10_calls P (by have := hP.out; omega) (by have := hP.out; omega) _).mono ?_
   rintro e' w1 ⟨rfl, rfl⟩
   rw [HLL.out]
   go_wp2_with fail
   refine (prescale_calls hi lo e P LP w0 HT.out hP.out.1 hP.out.2 (by omega) (by omega) hLp.out.1 hLp.out.2.1).mono ?_
   rintro e' w2 ⟨rfl, rfl⟩
   rw [HTH.out, HTL.out, HSS.out]
   go_wp2_with fail
   refine (U1.out _ _ (by simp [go_sem]) (by simp [go_sem]) (by simp [go_sem])).mono ?_
   rintro e' w3 ⟨rfl, hb3⟩
   have q0 : w3.cell? ⟨w0.heap.size, 0, none⟩ = some (.int .u64 TH) := (hb3.cell (by simp)).trans (by simp [go_sem])
   have q1 : w3.cell? ⟨w0.heap.size, 1, none⟩ = some (.int .u64 TL) := (hb3.cell (by simp)).trans (by simp [go_sem])
   have q2 : w3.cell? ⟨w0.heap.size, 2, none⟩ = some (.int .i64 S) := (hb3.cell (by simp)).trans (by simp [go_sem])
   have B3 : Hid (Below w0.heap.size w0 w3) := ((Below.refl _ _).alloc (Nat.le_refl _) _).trans (hb3.mono (by simp))
   have hz3 : w0.heap.size < w3.heap.size := by have := hb3.size; simp at this; omega
   have Q0 := Lib.hid q0
   have Q1 := Lib.hid q1
   have Q2 := Lib.hid q2
   clear hb3 q0 q1 q2
   go_wp2_with fail
   refine (U2.out _).mono ?_
   rintro e' w4 ⟨rfl, rfl⟩
   go_wp2_with fail
   refine (U3.out _).mono ?_
   rintro e' w4 ⟨rfl, rfl⟩
   go_wp2_with fail
   refine (U4.out _ _ Q0.out Q1.out Q2.out).mono ?_
   rintro e' w5 ⟨rfl, hb5⟩
   have Q3 : Hid (w5.cell? ⟨w0.heap.size, 0, none⟩ = some (.int .u64 TH)) := (hb5.cell hz3).trans Q0.out
   have Q4 : Hid (w5.cell? ⟨w0.heap.size, 1, none⟩ = some (.int .u64 TL)) := (hb5.cell hz3).trans Q1.out
   have Q5 : Hid (w5.cell? ⟨w0.heap.size, 2, none⟩ = some (.int .i64 S)) := (hb5.cell hz3).trans Q2.out
   have B5 : Hid (Below w0.heap.size w0 w5) := B3.out.trans (hb5.mono (by omega))
   clear hb5
   go_wp2_with fail
   refine (U5.out _).mono ?_
   rintro e' w6 ⟨rfl, rfl⟩
   go_wp2_with fail
   refine (U6.out _).mono ?_
   rintro e' w6 ⟨rfl, rfl⟩
   go_wp2
   go_ret2
   exact ⟨rfl, B5.out⟩
theorem shortFloat_d (hi lo : Nat → Int) (hhi : ∀ i, 0 ≤ hi i ∧ hi i < 18446744073709551616) (hlo : ∀ i, 0 ≤ lo i ∧ lo i < 18446744073709551616) (m e : Int) (h0 : 0 ≤ m) (h1 : m < 18446744073709551616) (e1 : e = -1085) (hm : m = 9223372036854775808) :
  ∃ d p : Int, (0 ≤ d ∧ d < 18446744073709551616) ∧ (-360 ≤ p ∧ p ≤ 360) ∧ ∀ w, TabW hi lo w → Calls Tryz.prog 194 #[.int .u64 m, .int .i64 e] w fun e' w' => e' = .returned (.tuple #[.int .u64 d, .int .i64 p]) ∧ Below w.heap.size w w' := by
 subst hm
 subst e1
 have hO : bits .and .i64 4503599627370496 1 = 0 := and_mask 1 (by decide) 4503599627370496 (by omega) (by omega)
 obtain ⟨P, hPn⟩ : ∃ P : Int, (324 : Int) = P := ⟨_, rfl⟩
 have hLp : Hid (-3000 ≤ P * 108853 / 32768 ∧ P * 108853 / 32768 ≤ 3000 ∧ 0 ≤ -(-1085 + P * 108853 / 32768 + 3) ∧ -(-1085 + P * 108853 / 32768 + 3) ≤ 10000) := by show _ ∧ _; omega
 obtain ⟨LP, hLP⟩ : ∃ LP, P * 108853 / 32768 = LP := ⟨_, rfl⟩
 have hP : Hid (-348 ≤ P ∧ P < 348) := by show _ ∧ _; omega
 have hPb : -400 ≤ -P ∧ -P ≤ 399 := by omega
 rw [hLP] at hLp
 obtain ⟨S, hS⟩ : ∃ S, -(-1085 + LP + 3) = S := ⟨_, rfl⟩
 rw [hS] at hLp
 obtain ⟨TH, hTH⟩ : ∃ TH, hi (P + 348).toNat = TH := ⟨_, rfl⟩
 obtain ⟨TL, hTL⟩ : ∃ TL, lo (P + 348).toNat = TL := ⟨_, rfl⟩
 have hth := hhi (P + 348).toNat
 have htl := hlo (P + 348).toNat
 rw [hTH] at hth
 rw [hTL] at htl
 obtain ⟨r1, ⟨a1, b1⟩, u1⟩ := uscale_calls 9223372036854774784 TH TL S (by omega) (by omega) hth.1 hth.2 htl.1 htl.2 hLp.out.2.2.1 hLp.out.2.2.2
 obtain ⟨n1, ⟨a2, b2⟩, u2⟩ := nudge_calls r1 0
 obtain ⟨c1, ⟨a3, b3⟩, u3⟩ := ceil_calls n1
 obtain ⟨r2, ⟨a4, b4⟩, u4⟩ := uscale_calls 9223372036854776832 TH TL S (by omega) (by omega) hth.1 hth.2 htl.1 htl.2 hLp.out.2.2.1 hLp.out.2.2.2
 obtain ⟨n2, ⟨a5, b5⟩, u5⟩ := nudge_calls r2 0
 obtain ⟨c2, ⟨a6, b6⟩, u6⟩ := floor_calls n2 a5 b5
 obtain ⟨r3, ⟨a7, b7⟩, u7⟩ := uscale_calls 9223372036854775808 TH TL S (by omega) (by omega) hth.1 hth.2 htl.1 htl.2 hLp.out.2.2.1 hLp.out.2.2.2
 obtain ⟨c3, ⟨a8, b8⟩, u8⟩ := round_calls r3 a7 b7
 have U1 := Lib.hid u1
 clear u1
 have U2 := Lib.hid u2
 clear u2
 have U3 := Lib.hid u3
 clear u3
 have U4 := Lib.hid u4
 clear u4
 have U5 := Lib.hid u5
 clear u5
 have U6 := Lib.hid u6
 clear u6
 have U7 := Lib.hid u7
 clear u7
 have U8 := Lib.hid u8
 clear u8
 have HTH := Lib.hid hTH
 have HTL := Lib.hid hTL
 have HHI := Lib.hid hhi
 have HLO := Lib.hid hlo
 clear hTH hTL hhi hlo hth htl
 have HSS := Lib.hid hS
 have HLL := Lib.hid hLP
 clear hS hLP
 by_cases k1 : c1 ≤ c2 / 10 * 10
 ·have k1d : decide (c1 ≤ c2 / 10 * 10) = true := decide_eq_true k1
  refine ⟨c2 / 10, -(P - 1), by omega, by omega, ?_⟩
  intro w hT
  have HT := Lib.hid hT
  clear hT
  have HPn := Lib.hid hPn
  clear hPn
  go_enter Tryz.func194, Tryz.ntmps194
  go_wp2_with fail
  refine (log10Pow2_calls (-1074) (by omega) (by omega) _).mono ?_
  rintro e' w0 ⟨rfl, rfl⟩
  rw [show ((-1074 : Int) * 78913 / 262144) = -P by rw [← HPn.out]; decide]
  go_wp2_with fail
  refine (log2Pow10_calls P (by have := hP.out; omega) (by have := hP.out; omega) _).mono ?_
  rintro e' w1 ⟨rfl, rfl⟩
  rw [HLL.out]
  go_wp2_with fail
  refine (prescale_calls hi lo (-1085) P LP w0 HT.out hP.out.1 hP.out.2 (by omega) (by omega) hLp.out.1 hLp.out.2.1).mono ?_
  rintro e' w2 ⟨rfl, rfl⟩
  rw [HTH.out, HTL.out, HSS.out]
  go_wp2_with fail
  refine (U1.out _ _ (by simp [go_sem]) (by simp [go_sem]) (by simp [go_sem])).mono ?_
  rintro e' w3 ⟨rfl, hb3⟩
  have q0 : w3.cell? ⟨w0.heap.size, 0, none⟩ = some (.int .u64 TH) := (hb3.cell (by simp)).trans (by simp [go_sem])
  have q1 : w3.cell? ⟨w0.heap.size, 1, none⟩ = some (.int .u64 TL) := (hb3.cell (by simp)).trans (by simp [go_sem])
  have q2 : w3.cell? ⟨w0.heap.size, 2, none⟩ = some (.int .i64 S) := (hb3.cell (by simp)).trans (by simp [go_sem])
  have B3 : Hid (Below w0.heap.size w0 w3) := ((Below.refl _ _).alloc (Nat.le_refl _) _).trans (hb3.mono (by simp))
  have hz3 : w0.heap.size < w3.heap.size := by have := hb3.size; simp at this; omega
  have Q0 := Lib.hid q0
  have Q1 := Lib.hid q1
  have Q2 := Lib.hid q2
  clear hb3 q0 q1 q2
  go_wp2_with fail
  refine (U2.out _).mono ?_
  rintro e' w4 ⟨rfl, rfl⟩
  go_wp2_with fail
  refine (U3.out _).mono ?_
  rintro e' w4 ⟨rfl, rfl⟩
  go_wp2_with fail
  refine (U4.out _ _ Q0.out Q1.out Q2.out).mono ?_
  rintro e' w5 ⟨rfl, hb5⟩
  have Q3 : Hid (w5.cell? ⟨w0.heap.size, 0, none⟩ = some (.int .u64 TH)) := (hb5.cell hz3).trans Q0.out
  have Q4 : Hid (w5.cell? ⟨w0.heap.size, 1, none⟩ = some (.int .u64 TL)) := (hb5.cell hz3).trans Q1.out
  have Q5 : Hid (w5.cell? ⟨w0.heap.size, 2, none⟩ = some (.int .i64 S)) := (hb5.cell hz3).trans Q2.out
  have B5 : Hid (Below w0.heap.size w0 w5) := B3.out.trans (hb5.mono (by omega))
  clear hb5
  go_wp2_with fail
  refine (U5.out _).mono ?_
  rintro e' w6 ⟨rfl, rfl⟩
  go_wp2_with fail
  refine (U6.out _).mono ?_
  rintro e' w6 ⟨rfl, rfl⟩
  go_wp2
  go_ret2
  exact ⟨rfl, B5.out⟩
 ·have k1d : decide (c1 ≤ c2 / 10 * 10) = false := decide_eq_false k1
  by_cases k2 : c1 < c2
  ·have k2d : decide (c1 < c2) = true := decide_eq_true k2
   refine ⟨c3, -P, by omega, by omega, ?_⟩
   intro w hT
   have HT := Lib.hid hT
   clear hT
   have HPn := Lib.hid hPn
   clear hPn
   go_enter Tryz.func194, Tryz.ntmps194
   go_wp2_with fail
   refine (log10Pow2_calls (-1074) (by omega) (by omega) _).mono ?_
   rintro e' w0 ⟨rfl, rfl⟩
   rw [show ((-1074 : Int) * 78913 / 262144) = -P by rw [← HPn.out]; decide]
   go_wp2_with fail
   refine (log2Pow10_calls P (by have := hP.out; omega) (by have := hP.out; omega) _).mono ?_
   rintro e' w1 ⟨rfl, rfl⟩
   rw [HLL.out]
   go_wp2_with fail
   refine (prescale_calls hi lo (-1085) P LP w0 HT.out hP.out.1 hP.out.2 (by omega) (by omega) hLp.out.1 hLp.out.2.1).mono ?_
   rintro e' w2 ⟨rfl, rfl⟩
   rw [HTH.out, HTL.out, HSS.out]
   go_wp2_with fail
   refine (U1.out _ _ (by simp [go_sem]) (by simp [go_sem]) (by simp [go_sem])).mono ?_
   rintro e' w3 ⟨rfl, hb3⟩
   have q0 : w3.cell? ⟨w0.heap.size, 0, none⟩ = some (.int .u64 TH) := (hb3.cell (by simp)).trans (by simp [go_sem])
   have q1 : w3.cell? ⟨w0.heap.size, 1, none⟩ = some (.int .u64 TL) := (hb3.cell (by simp)).trans (by simp [go_sem])
   have q2 : w3.cell? ⟨w0.heap.size, 2, none⟩ = some (.int .i64 S) := (hb3.cell (by simp)).trans (by simp [go_sem])
   have B3 : Hid (Below w0.heap.size w0 w3) := ((Below.refl _ _).alloc (Nat.le_refl _) _).trans (hb3.mono (by simp))
   have hz3 : w0.heap.size < w3.heap.size := by have := hb3.size; simp at this; omega
   have Q0 := Lib.hid q0
   have Q1 := Lib.hid q1
   have Q2 := Lib.hid q2
   clear hb3 q0 q1 q2
   go_wp2_with fail
   refine (U2.out _).mono ?_
   rintro e' w4 ⟨rfl, rfl⟩
   go_wp2_with fail
   refine (U3.out _).mono ?_
   rintro e' w4 ⟨rfl, rfl⟩
   go_wp2_with fail
   refine (U4.out _ _ Q0.out Q1.out Q2.out).mono ?_
   rintro e' w5 ⟨rfl, hb5⟩
   have Q3 : Hid (w5.cell? ⟨w0.heap.size, 0, none⟩ = some (.int .u64 TH)) := (hb5.cell hz3).trans Q0.out
   have Q4 : Hid (w5.cell? ⟨w0.heap.size, 1, none⟩ = some (.int .u64 TL)) := (hb5.cell hz3).trans Q1.out
   have Q5 : Hid (w5.cell? ⟨w0.heap.size, 2, none⟩ = some (.int .i64 S)) := (hb5.cell hz3).trans Q2.out
   have B5 : Hid (Below w0.heap.size w0 w5) := B3.out.trans (hb5.mono (by omega))
   clear hb5
   go_wp2_with fail
   refine (U5.out _).mono ?_
   rintro e' w6 ⟨rfl, rfl⟩
   go_wp2_with fail
   refine (U6.out _).mono ?_
   rintro e' w6 ⟨rfl, rfl⟩
   go_wp2_with fail
   refine (U7.out _ _ Q3.out Q4.out Q5.out).mono ?_
   rintro e' w7 ⟨rfl, hb7⟩
   have B7 : Hid (Below w0.heap.size w0 w7) := B5.out.trans (hb7.mono (by have := B5.out.size; omega))
   clear hb7
   go_wp2_with fail
   refine (U8.out _).mono ?_
   rintro e' w8 ⟨rfl, rfl⟩
   go_wp2
   go_ret2
   exact ⟨rfl, B7.out⟩
  ·have k2d : decide (c1 < c2) = false := decide_eq_false k2
   refine ⟨c1, -P, by omega, by omega, ?_⟩
   intro w hT
   have HT := Lib.hid hT
   clear hT
   have HPn := Lib.hid hPn
   clear hPn
   go_enter Tryz.func194, Tryz.ntmps194
   go_wp2_with fail
   refine (log10Pow2_calls (-1074) (by omega) (by omega) _).mono ?_
   rintro e' w0 ⟨rfl, rfl⟩
   rw [show ((-1074 : Int) * 78913 / 262144) = -P by rw [← HPn.out]; decide]
   go_wp2_with fail
   refine (log2Pow10_calls P (by have := hP.out; omega) (by have := hP.out; omega) _).mono ?_
   rintro e' w1 ⟨rfl, rfl⟩
   rw [HLL.out]
   go_wp2_with fail
   refine (prescale_calls hi lo (-1085) P LP w0 HT.out hP.out.1 hP.out.2 (by omega) (by omega) hLp.out.1 hLp.out.2.1).mono ?_
   rintro e' w2 ⟨rfl, rfl⟩
   rw [HTH.out, HTL.out, HSS.out]
   go_wp2_with fail
   refine (U1.out _ _ (by simp [go_sem]) (by simp [go_sem]) (by simp [go_sem])).mono ?_
   rintro e' w3 ⟨rfl, hb3⟩
   have q0 : w3.cell? ⟨w0.heap.size, 0, none⟩ = some (.int .u64 TH) := (hb3.cell (by simp)).trans (by simp [go_sem])
   have q1 : w3.cell? ⟨w0.heap.size, 1, none⟩ = some (.int .u64 TL) := (hb3.cell (by simp)).trans (by simp [go_sem])
   have q2 : w3.cell? ⟨w0.heap.size, 2, none⟩ = some (.int .i64 S) := (hb3.cell (by simp)).trans (by simp [go_sem])
   have B3 : Hid (Below w0.heap.size w0 w3) := ((Below.refl _ _).alloc (Nat.le_refl _) _).trans (hb3.mono (by simp))
   have hz3 : w0.heap.size < w3.heap.size := by have := hb3.size; simp at this; omega
   have Q0 := Lib.hid q0
   have Q1 := Lib.hid q1
   have Q2 := Lib.hid q2
   clear hb3 q0 q1 q2
   go_wp2_with fail
   refine (U2.out _).mono ?_
   rintro e' w4 ⟨rfl, rfl⟩
   go_wp2_with fail
   refine (U3.out _).mono ?_
   rintro e' w4 ⟨rfl, rfl⟩
   go_wp2_with fail
   refine (U4.out _ _ Q0.out Q1.out Q2.out).mono ?_
   rintro e' w5 ⟨rfl, hb5⟩
   have Q3 : Hid (w5.cell? ⟨w0.heap.size, 0, none⟩ = some (.int .u64 TH)) := (hb5.cell hz3).trans Q0.out
   have Q4 : Hid (w5.cell? ⟨w0.heap.size, 1, none⟩ = some (.int .u64 TL)) := (hb5.cell hz3).trans Q1.out
   have Q5 : Hid (w5.cell? ⟨w0.heap.size, 2, none⟩ = some (.int .i64 S)) := (hb5.cell hz3).trans Q2.out
   have B5 : Hid (Below w0.heap.size w0 w5) := B3.out.trans (hb5.mono (by omega))
   clear hb5
   go_wp2_with fail
   refine (U5.out _).mono ?_
   rintro e' w6 ⟨rfl, rfl⟩
   go_wp2_with fail
   refine (U6.out _).mono ?_
   rintro e' w6 ⟨rfl, rfl⟩
   go_wp2
   go_ret2
   exact ⟨rfl, B5.out⟩
theorem shortFloat_a (hi lo : Nat → Int) (hhi : ∀ i, 0 ≤ hi i ∧ hi i < 18446744073709551616) (hlo : ∀ i, 0 ≤ lo i ∧ lo i < 18446744073709551616) (m e : Int) (h0 : 0 ≤ m) (h1 : m < 18446744073709551616) (e1 : e ≤ 960) (hm : m = 9223372036854775808) (he : -1085 < e) :
  ∃ d p : Int, (0 ≤ d ∧ d < 18446744073709551616) ∧ (-360 ≤ p ∧ p ≤ 360) ∧ ∀ w, TabW hi lo w → Calls Tryz.prog 194 #[.int .u64 m, .int .i64 e] w fun e' w' => e' = .returned (.tuple #[.int .u64 d, .int .i64 p]) ∧ Below w.heap.size w w' := by
 subst hm
 have hO : bits .and .i64 4503599627370496 1 = 0 := and_mask 1 (by decide) 4503599627370496 (by omega) (by omega)
 have d0 : decide (-1085 < e) = true := decide_eq_true he
 obtain ⟨P, hPn⟩ : ∃ P, -(((e + 11) * 631305 - 261663) / 2097152) = P := ⟨_, rfl⟩
 have HPn : Hid (((e + 11) * 631305 - 261663) / 2097152 = -P) := by show _ = _; omega
 have hLp : Hid (-3000 ≤ P * 108853 / 32768 ∧ P * 108853 / 32768 ≤ 3000 ∧ 0 ≤ -(e + P * 108853 / 32768 + 3) ∧ -(e + P * 108853 / 32768 + 3) ≤ 10000) := by show _ ∧ _; omega
 obtain ⟨LP, hLP⟩ : ∃ LP, P * 108853 / 32768 = LP := ⟨_, rfl⟩
 have hP : Hid (-348 ≤ P ∧ P < 348) := by show _ ∧ _; omega
 have hPb : -400 ≤ -P ∧ -P ≤ 399 := by omega
 rw [hLP] at hLp
 obtain ⟨S, hS⟩ : ∃ S, -(e + LP + 3) = S := ⟨_, rfl⟩
 rw [hS] at hLp
 obtain ⟨TH, hTH⟩ : ∃ TH, hi (P + 348).toNat = TH := ⟨_, rfl⟩
 obtain ⟨TL, hTL⟩ : ∃ TL, lo (P + 348).toNat = TL := ⟨_, rfl⟩
 have hth := hhi (P + 348).toNat
 have htl := hlo (P + 348).toNat
 rw [hTH] at hth
 rw [hTL] at htl
 obtain ⟨r1, ⟨a1, b1⟩, u1⟩ := uscale_calls 9223372036854775296 TH TL S (by omega) (by omega) hth.1 hth.2 htl.1 htl.2 hLp.out.2.2.1 hLp.out.2.2.2
 obtain ⟨n1, ⟨a2, b2⟩, u2⟩ := nudge_calls r1 0
 obtain ⟨c1, ⟨a3, b3⟩, u3⟩ := ceil_calls n1
 obtain ⟨r2, ⟨a4, b4⟩, u4⟩ := uscale_calls 9223372036854776832 TH TL S (by omega) (by omega) hth.1 hth.2 htl.1 htl.2 hLp.out.2.2.1 hLp.out.2.2.2
 obtain ⟨n2, ⟨a5, b5⟩, u5⟩ := nudge_calls r2 0
 obtain ⟨c2, ⟨a6, b6⟩, u6⟩ := floor_calls n2 a5 b5
 obtain ⟨r3, ⟨a7, b7⟩, u7⟩ := uscale_calls 9223372036854775808 TH TL S (by omega) (by omega) hth.1 hth.2 htl.1 htl.2 hLp.out.2.2.1 hLp.out.2.2.2
 obtain ⟨c3, ⟨a8, b8⟩, u8⟩ := round_calls r3 a7 b7
 have U1 := Lib.hid u1
 clear u1
 have U2 := Lib.hid u2
 clear u2
 have U3 := Lib.hid u3
 clear u3
 have U4 := Lib.hid u4
 clear u4
 have U5 := Lib.hid u5
 clear u5
 have U6 := Lib.hid u6
 clear u6
 have U7 := Lib.hid u7
 clear u7
 have U8 := Lib.hid u8
 clear u8
 have HTH := Lib.hid hTH
 have HTL := Lib.hid hTL
 have HHI := Lib.hid hhi
 have HLO := Lib.hid hlo
 clear hTH hTL hhi hlo hth htl
 have HSS := Lib.hid hS
 have HLL := Lib.hid hLP
 clear hS hLP
 by_cases k1 : c1 ≤ c2 / 10 * 10
 ·have k1d : decide (c1 ≤ c2 / 10 * 10) = true := decide_eq_true k1
  refine ⟨c2 / 10, -(P - 1), by omega, by omega, ?_⟩
  intro w hT
  have HT := Lib.hid hT
  clear hT
  go_enter Tryz.func194, Tryz.ntmps194
  go_wp2_with fail
  refine (skewed_calls (e + 11) (by omega) (by omega) _).mono ?_
  rintro e' w0 ⟨rfl, rfl⟩
  rw [HPn.out]
  go_wp2_with fail
  refine (log2Pow10_calls P (by have := hP.out; omega) (by have := hP.out; omega) _).mono ?_
  rintro e' w1 ⟨rfl, rfl⟩
  rw [HLL.out]
  go_wp2_with fail
  refine (prescale_calls hi lo e P LP w0 HT.out hP.out.1 hP.out.2 (by omega) (by omega) hLp.out.1 hLp.out.2.1).mono ?_
  rintro e' w2 ⟨rfl, rfl⟩
  rw [HTH.out, HTL.out, HSS.out]
  go_wp2_with fail
  refine (U1.out _ _ (by simp [go_sem]) (by simp [go_sem]) (by simp [go_sem])).mono ?_
  rintro e' w3 ⟨rfl, hb3⟩
  have q0 : w3.cell? ⟨w0.heap.size, 0, none⟩ = some (.int .u64 TH) := (hb3.cell (by simp)).trans (by simp [go_sem])
  have q1 : w3.cell? ⟨w0.heap.size, 1, none⟩ = some (.int .u64 TL) := (hb3.cell (by simp)).trans (by simp [go_sem])
  have q2 : w3.cell? ⟨w0.heap.size, 2, none⟩ = some (.int .i64 S) := (hb3.cell (by simp)).trans (by simp [go_sem])
  have B3 : Hid (Below w0.heap.size w0 w3) := ((Below.refl _ _).alloc (Nat.le_refl _) _).trans (hb3.mono (by simp))
  have hz3 : w0.heap.size < w3.heap.size := by have := hb3.size; simp at this; omega
  have Q0 := Lib.hid q0
  have Q1 := Lib.hid q1
  have Q2 := Lib.hid q2
  clear hb3 q0 q1 q2
  go_wp2_with fail
  refine (U2.out _).mono ?_
  rintro e' w4 ⟨rfl, rfl⟩
  go_wp2_with fail
  refine (U3.out _).mono ?_
  rintro e' w4 ⟨rfl, rfl⟩
  go_wp2_with fail
  refine (U4.out _ _ Q0.out Q1.out Q2.out).mono ?_
  rintro e' w5 ⟨rfl, hb5⟩
  have Q3 : Hid (w5.cell? ⟨w0.heap.size, 0, none⟩ = some (.int .u64 TH)) := (hb5.cell hz3).trans Q0.out
  have Q4 : Hid (w5.cell? ⟨w0.heap.size, 1, none⟩ = some (.int .u64 TL)) := (hb5.cell hz3).trans Q1.out
  have Q5 : Hid (w5.cell? ⟨w0.heap.size, 2, none⟩ = some (.int .i64 S)) := (hb5.cell hz3).trans Q2.out
  have B5 : Hid (Below w0.heap.size w0 w5) := B3.out.trans (hb5.mono (by omega))
  clear hb5
  go_wp2_with fail
  refine (U5.out _).mono ?_
  rintro e' w6 ⟨rfl, rfl⟩
  go_wp2_with fail
  refine (U6.out _).mono ?_
  rintro e' w6 ⟨rfl, rfl⟩
  go_wp2
  go_ret2
  exact ⟨rfl, B5.out⟩
 ·have k1d : decide (c1 ≤ c2 / 10 * 10) = false := decide_eq_false k1
  by_cases k2 : c1 < c2
  ·have k2d : decide (c1 < c2) = true := decide_eq_true k2
   refine ⟨c3, -P, by omega, by omega, ?_⟩
   intro w hT
   have HT := Lib.hid hT
   clear hT
   go_enter Tryz.func194, Tryz.ntmps194
   go_wp2_with fail
   refine (skewed_calls (e + 11) (by omega) (by omega) _).mono ?_
   rintro e' w0 ⟨rfl, rfl⟩
   rw [HPn.out]
   go_wp2_with fail
   refine (log2Pow10_calls P (by have := hP.out; omega) (by have := hP.out; omega) _).mono ?_
   rintro e' w1 ⟨rfl, rfl⟩
   rw [HLL.out]
   go_wp2_with fail
   refine (prescale_calls hi lo e P LP w0 HT.out hP.out.1 hP.out.2 (by omega) (by omega) hLp.out.1 hLp.out.2.1).mono ?_
   rintro e' w2 ⟨rfl, rfl⟩
   rw [HTH.out, HTL.out, HSS.out]
   go_wp2_with fail
   refine (U1.out _ _ (by simp [go_sem]) (by simp [go_sem]) (by simp [go_sem])).mono ?_
   rintro e' w3 ⟨rfl, hb3⟩
   have q0 : w3.cell? ⟨w0.heap.size, 0, none⟩ = some (.int .u64 TH) := (hb3.cell (by simp)).trans (by simp [go_sem])
   have q1 : w3.cell? ⟨w0.heap.size, 1, none⟩ = some (.int .u64 TL) := (hb3.cell (by simp)).trans (by simp [go_sem])
   have q2 : w3.cell? ⟨w0.heap.size, 2, none⟩ = some (.int .i64 S) := (hb3.cell (by simp)).trans (by simp [go_sem])
   have B3 : Hid (Below w0.heap.size w0 w3) := ((Below.refl _ _).alloc (Nat.le_refl _) _).trans (hb3.mono (by simp))
   have hz3 : w0.heap.size < w3.heap.size := by have := hb3.size; simp at this; omega
   have Q0 := Lib.hid q0
   have Q1 := Lib.hid q1
   have Q2 := Lib.hid q2
   clear hb3 q0 q1 q2
   go_wp2_with fail
   refine (U2.out _).mono ?_
   rintro e' w4 ⟨rfl, rfl⟩
   go_wp2_with fail
   refine (U3.out _).mono ?_
   rintro e' w4 ⟨rfl, rfl⟩
   go_wp2_with fail
   refine (U4.out _ _ Q0.out Q1.out Q2.out).mono ?_
   rintro e' w5 ⟨rfl, hb5⟩
   have Q3 : Hid (w5.cell? ⟨w0.heap.size, 0, none⟩ = some (.int .u64 TH)) := (hb5.cell hz3).trans Q0.out
   have Q4 : Hid (w5.cell? ⟨w0.heap.size, 1, none⟩ = some (.int .u64 TL)) := (hb5.cell hz3).trans Q1.out
   have Q5 : Hid (w5.cell? ⟨w0.heap.size, 2, none⟩ = some (.int .i64 S)) := (hb5.cell hz3).trans Q2.out
   have B5 : Hid (Below w0.heap.size w0 w5) := B3.out.trans (hb5.mono (by omega))
   clear hb5
   go_wp2_with fail
   refine (U5.out _).mono ?_
   rintro e' w6 ⟨rfl, rfl⟩
   go_wp2_with fail
   refine (U6.out _).mono ?_
   rintro e' w6 ⟨rfl, rfl⟩
   go_wp2_with fail
   refine (U7.out _ _ Q3.out Q4.out Q5.out).mono ?_
   rintro e' w7 ⟨rfl, hb7⟩
   have B7 : Hid (Below w0.heap.size w0 w7) := B5.out.trans (hb7.mono (by have := B5.out.size; omega))
   clear hb7
   go_wp2_with fail
   refine (U8.out _).mono ?_
   rintro e' w8 ⟨rfl, rfl⟩
   go_wp2
   go_ret2
   exact ⟨rfl, B7.out⟩
  ·have k2d : decide (c1 < c2) = false := decide_eq_false k2
   refine ⟨c1, -P, by omega, by omega, ?_⟩
   intro w hT
   have HT := Lib.hid hT
   clear hT
   go_enter Tryz.func194, Tryz.ntmps194
   go_wp2_with fail
   refine (skewed_calls (e + 11) (by omega) (by omega) _).mono ?_
   rintro e' w0 ⟨rfl, rfl⟩
   rw [HPn.out]
   go_wp2_with fail
   refine (log2Pow10_calls P (by have := hP.out; omega) (by have := hP.out; omega) _).mono ?_
   rintro e' w1 ⟨rfl, rfl⟩
   rw [HLL.out]
   go_wp2_with fail
   refine (prescale_calls hi lo e P LP w0 HT.out hP.out.1 hP.out.2 (by omega) (by omega) hLp.out.1 hLp.out.2.1).mono ?_
   rintro e' w2 ⟨rfl, rfl⟩
   rw [HTH.out, HTL.out, HSS.out]
   go_wp2_with fail
   refine (U1.out _ _ (by simp [go_sem]) (by simp [go_sem]) (by simp [go_sem])).mono ?_
   rintro e' w3 ⟨rfl, hb3⟩
   have q0 : w3.cell? ⟨w0.heap.size, 0, none⟩ = some (.int .u64 TH) := (hb3.cell (by simp)).trans (by simp [go_sem])
   have q1 : w3.cell? ⟨w0.heap.size, 1, none⟩ = some (.int .u64 TL) := (hb3.cell (by simp)).trans (by simp [go_sem])
   have q2 : w3.cell? ⟨w0.heap.size, 2, none⟩ = some (.int .i64 S) := (hb3.cell (by simp)).trans (by simp [go_sem])
   have B3 : Hid (Below w0.heap.size w0 w3) := ((Below.refl _ _).alloc (Nat.le_refl _) _).trans (hb3.mono (by simp))
   have hz3 : w0.heap.size < w3.heap.size := by have := hb3.size; simp at this; omega
   have Q0 := Lib.hid q0
   have Q1 := Lib.hid q1
   have Q2 := Lib.hid q2
   clear hb3 q0 q1 q2
   go_wp2_with fail
   refine (U2.out _).mono ?_
   rintro e' w4 ⟨rfl, rfl⟩
   go_wp2_with fail
   refine (U3.out _).mono ?_
   rintro e' w4 ⟨rfl, rfl⟩
   go_wp2_with fail
   refine (U4.out _ _ Q0.out Q1.out Q2.out).mono ?_
   rintro e' w5 ⟨rfl, hb5⟩
   have Q3 : Hid (w5.cell? ⟨w0.heap.size, 0, none⟩ = some (.int .u64 TH)) := (hb5.cell hz3).trans Q0.out
   have Q4 : Hid (w5.cell? ⟨w0.heap.size, 1, none⟩ = some (.int .u64 TL)) := (hb5.cell hz3).trans Q1.out
   have Q5 : Hid (w5.cell? ⟨w0.heap.size, 2, none⟩ = some (.int .i64 S)) := (hb5.cell hz3).trans Q2.out
   have B5 : Hid (Below w0.heap.size w0 w5) := B3.out.trans (hb5.mono (by omega))
   clear hb5
   go_wp2_with fail
   refine (U5.out _).mono ?_
   rintro e' w6 ⟨rfl, rfl⟩
   go_wp2_with fail
   refine (U6.out _).mono ?_
   rintro e' w6 ⟨rfl, rfl⟩
   go_wp2
   go_ret2
   exact ⟨rfl, B5.out⟩
theorem shortFloat_c (hi lo : Nat → Int) (hhi : ∀ i, 0 ≤ hi i ∧ hi i < 18446744073709551616) (hlo : ∀ i, 0 ≤ lo i ∧ lo i < 18446744073709551616) (m e : Int) (h0 : 0 ≤ m) (h1 : m < 18446744073709551616) (he : e < -1085) (he2 : -1137 ≤ e) (hm : m ≠ 9223372036854775808) :
  ∃ d p : Int, (0 ≤ d ∧ d < 18446744073709551616) ∧ (-360 ≤ p ∧ p ≤ 360) ∧ ∀ w, TabW hi lo w → Calls Tryz.prog 194 #[.int .u64 m, .int .i64 e] w fun e' w' => e' = .returned (.tuple #[.int .u64 d, .int .i64 p]) ∧ Below w.heap.size w w' := by
 have hmb : (m == 9223372036854775808) = false := by rw [beq_eq_false_iff_ne]; exact hm
 have d1 : decide (-1085 ≤ e) = false := decide_eq_false (by omega)
 obtain ⟨P, hPn⟩ : ∃ P : Int, (324 : Int) = P := ⟨_, rfl⟩
 obtain ⟨Z, hZ⟩ : ∃ Z : Nat, -1074 - e = Z := ⟨(-1074 - e).toNat, by omega⟩
 have hZb : 12 ≤ Z ∧ Z ≤ 63 := by omega
 have hpz : (4096 : Int) ≤ 2 ^ Z := by
  have := Nat.pow_le_pow_right (n := 2) (by decide) (show 12 ≤ Z by omega)
  exact_mod_cast this
 have hmz : 0 ≤ m / 2 ^ Z ∧ m / 2 ^ Z < 1152921504606846976 := by
  generalize (2 : Int) ^ Z = T at hpz
  have hq : m < 1152921504606846976 * T := by omega
  exact ⟨Int.ediv_nonneg (by omega) (by omega), Int.ediv_lt_of_lt_mul (by omega) hq⟩
 obtain ⟨M, hM⟩ : ∃ M, m / 2 ^ Z = M := ⟨_, rfl⟩
 rw [hM] at hmz
 obtain ⟨O, hO⟩ : ∃ O, bits .and .i64 M 1 = O := ⟨_, rfl⟩
 have hO' : O = M % 2 := by rw [← hO]; exact and_mask 1 (by decide) _ (by omega) (by omega)
 have hO2 : 0 ≤ O ∧ O ≤ 1 := by omega
 clear hO' hpz
 obtain ⟨X, hX⟩ : ∃ X, IntKind.u64.wrap (m - IntKind.u64.wrap (2 ^ (Z - 1))) = X := ⟨_, rfl⟩
 obtain ⟨Y, hY⟩ : ∃ Y, IntKind.u64.wrap (m + IntKind.u64.wrap (2 ^ (Z - 1))) = Y := ⟨_, rfl⟩
 have X0 : 0 ≤ X ∧ X < 18446744073709551616 := hX ▸ u64_range _
 have Y0 : 0 ≤ Y ∧ Y < 18446744073709551616 := hY ▸ u64_range _
 have hLp : Hid (-3000 ≤ P * 108853 / 32768 ∧ P * 108853 / 32768 ≤ 3000 ∧ 0 ≤ -(e + P * 108853 / 32768 + 3) ∧ -(e + P * 108853 / 32768 + 3) ≤ 10000) := by show _ ∧ _; omega
 obtain ⟨LP, hLP⟩ : ∃ LP, P * 108853 / 32768 = LP := ⟨_, rfl⟩
 have hP : Hid (-348 ≤ P ∧ P < 348) := by show _ ∧ _; omega
 have hPb : -400 ≤ -P ∧ -P ≤ 399 := by omega
 rw [hLP] at hLp
 obtain ⟨S, hS⟩ : ∃ S, -(e + LP + 3) = S := ⟨_, rfl⟩
 rw [hS] at hLp
 obtain ⟨TH, hTH⟩ : ∃ TH, hi (P + 348).toNat = TH := ⟨_, rfl⟩
 obtain ⟨TL, hTL⟩ : ∃ TL, lo (P + 348).toNat = TL := ⟨_, rfl⟩
 have hth := hhi (P + 348).toNat
 have htl := hlo (P + 348).toNat
 rw [hTH] at hth
 rw [hTL] at htl
 obtain ⟨r1, ⟨a1, b1⟩, u1⟩ := uscale_calls X TH TL S (by omega) (by omega) hth.1 hth.2 htl.1 htl.2 hLp.out.2.2.1 hLp.out.2.2.2
 obtain ⟨n1, ⟨a2, b2⟩, u2⟩ := nudge_calls r1 O
 obtain ⟨c1, ⟨a3, b3⟩, u3⟩ := ceil_calls n1
 obtain ⟨r2, ⟨a4, b4⟩, u4⟩ := uscale_calls Y TH TL S (by omega) (by omega) hth.1 hth.2 htl.1 htl.2 hLp.out.2.2.1 hLp.out.2.2.2
 obtain ⟨n2, ⟨a5, b5⟩, u5⟩ := nudge_calls r2 (-O)
 obtain ⟨c2, ⟨a6, b6⟩, u6⟩ := floor_calls n2 a5 b5
 obtain ⟨r3, ⟨a7, b7⟩, u7⟩ := uscale_calls m TH TL S (by omega) (by omega) hth.1 hth.2 htl.1 htl.2 hLp.out.2.2.1 hLp.out.2.2.2
 obtain ⟨c3, ⟨a8, b8⟩, u8⟩ := round_calls r3 a7 b7
 have U1 := Lib.hid u1
 clear u1
 have U2 := Lib.hid u2
 clear u2
 have U3 := Lib.hid u3
 clear u3
 have U4 := Lib.hid u4
 clear u4
 have U5 := Lib.hid u5
 clear u5
 have U6 := Lib.hid u6
 clear u6
 have U7 := Lib.hid u7
 clear u7
 have U8 := Lib.hid u8
 clear u8
 have HTH := Lib.hid hTH
 have HTL := Lib.hid hTL
 have HHI := Lib.hid hhi
 have HLO := Lib.hid hlo
 clear hTH hTL hhi hlo hth htl
 have HSS := Lib.hid hS
 have HLL := Lib.hid hLP
 clear hS hLP
 by_cases k1 : c1 ≤ c2 / 10 * 10
 ·have k1d : decide (c1 ≤ c2 / 10 * 10) = true := decide_eq_true k1
  refine ⟨c2 / 10, -(P - 1), by omega, by omega, ?_⟩
  intro w hT
  have HT := Lib.hid hT
  clear hT
  have HPn := Lib.hid hPn
  have HZ := Lib.hid hZ
  clear hPn hZ
  go_enter Tryz.func194, Tryz.ntmps194
  go_wp2_with fail
  rw [show (11 + (-1085 - e)) = (Z : Int) by have := HZ.out; omega]
  rw [show e + (Z : Int) = -1074 by have := HZ.out; omega]
  refine (log10Pow2_calls (-1074) (by omega) (by omega) _).mono ?_
  rintro e' w0 ⟨rfl, rfl⟩
  rw [show ((-1074 : Int) * 78913 / 262144) = -P by rw [← HPn.out]; decide]
  go_wp2_with fail
  refine (log2Pow10_calls P (by have := hP.out; omega) (by have := hP.out; omega) _).mono ?_
  rintro e' w1 ⟨rfl, rfl⟩
  rw [HLL.out]
  go_wp2_with fail
  refine (prescale_calls hi lo e P LP w0 HT.out hP.out.1 hP.out.2 (by omega) (by omega) hLp.out.1 hLp.out.2.1).mono ?_
  rintro e' w2 ⟨rfl, rfl⟩
  rw [HTH.out, HTL.out, HSS.out]
  go_wp2_with fail
  refine (U1.out _ _ (by simp [go_sem]) (by simp [go_sem]) (by simp [go_sem])).mono ?_
  rintro e' w3 ⟨rfl, hb3⟩
  have q0 : w3.cell? ⟨w0.heap.size, 0, none⟩ = some (.int .u64 TH) := (hb3.cell (by simp)).trans (by simp [go_sem])
  have q1 : w3.cell? ⟨w0.heap.size, 1, none⟩ = some (.int .u64 TL) := (hb3.cell (by simp)).trans (by simp [go_sem])
  have q2 : w3.cell? ⟨w0.heap.size, 2, none⟩ = some (.int .i64 S) := (hb3.cell (by simp)).trans (by simp [go_sem])
  have B3 : Hid (Below w0.heap.size w0 w3) := ((Below.refl _ _).alloc (Nat.le_refl _) _).trans (hb3.mono (by simp))
  have hz3 : w0.heap.size < w3.heap.size := by have := hb3.size; simp at this; omega
  have Q0 := Lib.hid q0
  have Q1 := Lib.hid q1
  have Q2 := Lib.hid q2
  clear hb3 q0 q1 q2
  go_wp2_with fail
  refine (U2.out _).mono ?_
  rintro e' w4 ⟨rfl, rfl⟩
  go_wp2_with fail
  refine (U3.out _).mono ?_
  rintro e' w4 ⟨rfl, rfl⟩
  go_wp2_with fail
  refine (U4.out _ _ Q0.out Q1.out Q2.out).mono ?_
  rintro e' w5 ⟨rfl, hb5⟩
  have Q3 : Hid (w5.cell? ⟨w0.heap.size, 0, none⟩ = some (.int .u64 TH)) := (hb5.cell hz3).trans Q0.out
  have Q4 : Hid (w5.cell? ⟨w0.heap.size, 1, none⟩ = some (.int .u64 TL)) := (hb5.cell hz3).trans Q1.out
  have Q5 : Hid (w5.cell? ⟨w0.heap.size, 2, none⟩ = some (.int .i64 S)) := (hb5.cell hz3).trans Q2.out
  have B5 : Hid (Below w0.heap.size w0 w5) := B3.out.trans (hb5.mono (by omega))
  clear hb5
  go_wp2_with fail
  refine (U5.out _).mono ?_
  rintro e' w6 ⟨rfl, rfl⟩
  go_wp2_with fail
  refine (U6.out _).mono ?_
  rintro e' w6 ⟨rfl, rfl⟩
  go_wp2
  go_ret2
  exact ⟨rfl, B5.out⟩
 ·have k1d : decide (c1 ≤ c2 / 10 * 10) = false := decide_eq_false k1
  by_cases k2 : c1 < c2
  ·have k2d : decide (c1 < c2) = true := decide_eq_true k2
   refine ⟨c3, -P, by omega, by omega, ?_⟩
   intro w hT
   have HT := Lib.hid hT
   clear hT
   have HPn := Lib.hid hPn
   have HZ := Lib.hid hZ
   clear hPn hZ
   go_enter Tryz.func194, Tryz.ntmps194
   go_wp2_with fail
   rw [show (11 + (-1085 - e)) = (Z : Int) by have := HZ.out; omega]
   rw [show e + (Z : Int) = -1074 by have := HZ.out; omega]
   refine (log10Pow2_calls (-1074) (by omega) (by omega) _).mono ?_
   rintro e' w0 ⟨rfl, rfl⟩
   rw [show ((-1074 : Int) * 78913 / 262144) = -P by rw [← HPn.out]; decide]
   go_wp2_with fail
   refine (log2Pow10_calls P (by have := hP.out; omega) (by have := hP.out; omega) _).mono ?_
   rintro e' w1 ⟨rfl, rfl⟩
   rw [HLL.out]
   go_wp2_with fail
   refine (prescale_calls hi lo e P LP w0 HT.out hP.out.1 hP.out.2 (by omega) (by omega) hLp.out.1 hLp.out.2.1).mono ?_
   rintro e' w2 ⟨rfl, rfl⟩
   rw [HTH.out, HTL.out, HSS.out]
   go_wp2_with fail
   refine (U1.out _ _ (by simp [go_sem]) (by simp [go_sem]) (by simp [go_sem])).mono ?_
   rintro e' w3 ⟨rfl, hb3⟩
   have q0 : w3.cell? ⟨w0.heap.size, 0, none⟩ = some (.int .u64 TH) := (hb3.cell (by simp)).trans (by simp [go_sem])
   have q1 : w3.cell? ⟨w0.heap.size, 1, none⟩ = some (.int .u64 TL) := (hb3.cell (by simp)).trans (by simp [go_sem])
   have q2 : w3.cell? ⟨w0.heap.size, 2, none⟩ = some (.int .i64 S) := (hb3.cell (by simp)).trans (by simp [go_sem])
   have B3 : Hid (Below w0.heap.size w0 w3) := ((Below.refl _ _).alloc (Nat.le_refl _) _).trans (hb3.mono (by simp))
   have hz3 : w0.heap.size < w3.heap.size := by have := hb3.size; simp at this; omega
   have Q0 := Lib.hid q0
   have Q1 := Lib.hid q1
   have Q2 := Lib.hid q2
   clear hb3 q0 q1 q2
   go_wp2_with fail
   refine (U2.out _).mono ?_
   rintro e' w4 ⟨rfl, rfl⟩
   go_wp2_with fail
   refine (U3.out _).mono ?_
   rintro e' w4 ⟨rfl, rfl⟩
   go_wp2_with fail
   refine (U4.out _ _ Q0.out Q1.out Q2.out).mono ?_
   rintro e' w5 ⟨rfl, hb5⟩
   have Q3 : Hid (w5.cell? ⟨w0.heap.size, 0, none⟩ = some (.int .u64 TH)) := (hb5.cell hz3).trans Q0.out
   have Q4 : Hid (w5.cell? ⟨w0.heap.size, 1, none⟩ = some (.int .u64 TL)) := (hb5.cell hz3).trans Q1.out
   have Q5 : Hid (w5.cell? ⟨w0.heap.size, 2, none⟩ = some (.int .i64 S)) := (hb5.cell hz3).trans Q2.out
   have B5 : Hid (Below w0.heap.size w0 w5) := B3.out.trans (hb5.mono (by omega))
   clear hb5
   go_wp2_with fail
   refine (U5.out _).mono ?_
   rintro e' w6 ⟨rfl, rfl⟩
   go_wp2_with fail
   refine (U6.out _).mono ?_
   rintro e' w6 ⟨rfl, rfl⟩
   go_wp2_with fail
   refine (U7.out _ _ Q3.out Q4.out Q5.out).mono ?_
   rintro e' w7 ⟨rfl, hb7⟩
   have B7 : Hid (Below w0.heap.size w0 w7) := B5.out.trans (hb7.mono (by have := B5.out.size; omega))
   clear hb7
   go_wp2_with fail
   refine (U8.out _).mono ?_
   rintro e' w8 ⟨rfl, rfl⟩
   go_wp2
   go_ret2
   exact ⟨rfl, B7.out⟩
  ·have k2d : decide (c1 < c2) = false := decide_eq_false k2
   refine ⟨c1, -P, by omega, by omega, ?_⟩
   intro w hT
   have HT := Lib.hid hT
   clear hT
   have HPn := Lib.hid hPn
   have HZ := Lib.hid hZ
   clear hPn hZ
   go_enter Tryz.func194, Tryz.ntmps194
   go_wp2_with fail
   rw [show (11 + (-1085 - e)) = (Z : Int) by have := HZ.out; omega]
   rw [show e + (Z : Int) = -1074 by have := HZ.out; omega]
   refine (log10Pow2_calls (-1074) (by omega) (by omega) _).mono ?_
   rintro e' w0 ⟨rfl, rfl⟩
   rw [show ((-1074 : Int) * 78913 / 262144) = -P by rw [← HPn.out]; decide]
   go_wp2_with fail
   refine (log2Pow10_calls P (by have := hP.out; omega) (by have := hP.out; omega) _).mono ?_
   rintro e' w1 ⟨rfl, rfl⟩
   rw [HLL.out]
   go_wp2_with fail
   refine (prescale_calls hi lo e P LP w0 HT.out hP.out.1 hP.out.2 (by omega) (by omega) hLp.out.1 hLp.out.2.1).mono ?_
   rintro e' w2 ⟨rfl, rfl⟩
   rw [HTH.out, HTL.out, HSS.out]
   go_wp2_with fail
   refine (U1.out _ _ (by simp [go_sem]) (by simp [go_sem]) (by simp [go_sem])).mono ?_
   rintro e' w3 ⟨rfl, hb3⟩
   have q0 : w3.cell? ⟨w0.heap.size, 0, none⟩ = some (.int .u64 TH) := (hb3.cell (by simp)).trans (by simp [go_sem])
   have q1 : w3.cell? ⟨w0.heap.size, 1, none⟩ = some (.int .u64 TL) := (hb3.cell (by simp)).trans (by simp [go_sem])
   have q2 : w3.cell? ⟨w0.heap.size, 2, none⟩ = some (.int .i64 S) := (hb3.cell (by simp)).trans (by simp [go_sem])
   have B3 : Hid (Below w0.heap.size w0 w3) := ((Below.refl _ _).alloc (Nat.le_refl _) _).trans (hb3.mono (by simp))
   have hz3 : w0.heap.size < w3.heap.size := by have := hb3.size; simp at this; omega
   have Q0 := Lib.hid q0
   have Q1 := Lib.hid q1
   have Q2 := Lib.hid q2
   clear hb3 q0 q1 q2
   go_wp2_with fail
   refine (U2.out _).mono ?_
   rintro e' w4 ⟨rfl, rfl⟩
   go_wp2_with fail
   refine (U3.out _).mono ?_
   rintro e' w4 ⟨rfl, rfl⟩
   go_wp2_with fail
   refine (U4.out _ _ Q0.out Q1.out Q2.out).mono ?_
   rintro e' w5 ⟨rfl, hb5⟩
   have Q3 : Hid (w5.cell? ⟨w0.heap.size, 0, none⟩ = some (.int .u64 TH)) := (hb5.cell hz3).trans Q0.out
   have Q4 : Hid (w5.cell? ⟨w0.heap.size, 1, none⟩ = some (.int .u64 TL)) := (hb5.cell hz3).trans Q1.out
   have Q5 : Hid (w5.cell? ⟨w0.heap.size, 2, none⟩ = some (.int .i64 S)) := (hb5.cell hz3).trans Q2.out
   have B5 : Hid (Below w0.heap.size w0 w5) := B3.out.trans (hb5.mono (by omega))
   clear hb5
   go_wp2_with fail
   refine (U5.out _).mono ?_
   rintro e' w6 ⟨rfl, rfl⟩
   go_wp2_with fail
   refine (U6.out _).mono ?_
   rintro e' w6 ⟨rfl, rfl⟩
   go_wp2
   go_ret2
   exact ⟨rfl, B5.out⟩
theorem shortFloat_f (hi lo : Nat → Int) (hhi : ∀ i, 0 ≤ hi i ∧ hi i < 18446744073709551616) (hlo : ∀ i, 0 ≤ lo i ∧ lo i < 18446744073709551616) (m e : Int) (h0 : 0 ≤ m) (h1 : m < 18446744073709551616) (he : e < -1085) (he2 : -1137 ≤ e) (hm : m = 9223372036854775808) :
  ∃ d p : Int, (0 ≤ d ∧ d < 18446744073709551616) ∧ (-360 ≤ p ∧ p ≤ 360) ∧ ∀ w, TabW hi lo w → Calls Tryz.prog 194 #[.int .u64 m, .int .i64 e] w fun e' w' => e' = .returned (.tuple #[.int .u64 d, .int .i64 p]) ∧ Below w.heap.size w w' := by
 subst hm
 have d0 : decide (-1085 < e) = false := decide_eq_false (by omega)
 have d1 : decide (-1085 ≤ e) = false := decide_eq_false (by omega)
 obtain ⟨P, hPn⟩ : ∃ P : Int, (324 : Int) = P := ⟨_, rfl⟩
 obtain ⟨Z, hZ⟩ : ∃ Z : Nat, -1074 - e = Z := ⟨(-1074 - e).toNat, by omega⟩
 have hZb : 12 ≤ Z ∧ Z ≤ 63 := by omega
 have hpz : (4096 : Int) ≤ 2 ^ Z := by
  have := Nat.pow_le_pow_right (n := 2) (by decide) (show 12 ≤ Z by omega)
  exact_mod_cast this
 have hmz : 0 ≤ (9223372036854775808 : Int) / 2 ^ Z ∧ (9223372036854775808 : Int) / 2 ^ Z < 1152921504606846976 := by
  generalize (2 : Int) ^ Z = T at hpz
  have hq : (9223372036854775808 : Int) < 1152921504606846976 * T := by omega
  exact ⟨Int.ediv_nonneg (by omega) (by omega), Int.ediv_lt_of_lt_mul (by omega) hq⟩
 obtain ⟨M, hM⟩ : ∃ M, (9223372036854775808 : Int) / 2 ^ Z = M := ⟨_, rfl⟩
 rw [hM] at hmz
 obtain ⟨O, hO⟩ : ∃ O, bits .and .i64 M 1 = O := ⟨_, rfl⟩
 have hO' : O = M % 2 := by rw [← hO]; exact and_mask 1 (by decide) _ (by omega) (by omega)
 have hO2 : 0 ≤ O ∧ O ≤ 1 := by omega
 clear hO' hpz
 obtain ⟨X, hX⟩ : ∃ X, IntKind.u64.wrap (9223372036854775808 - IntKind.u64.wrap (2 ^ (Z - 1))) = X := ⟨_, rfl⟩
 obtain ⟨Y, hY⟩ : ∃ Y, IntKind.u64.wrap (9223372036854775808 + IntKind.u64.wrap (2 ^ (Z - 1))) = Y := ⟨_, rfl⟩
 have X0 : 0 ≤ X ∧ X < 18446744073709551616 := hX ▸ u64_range _
 have Y0 : 0 ≤ Y ∧ Y < 18446744073709551616 := hY ▸ u64_range _
 have hLp : Hid (-3000 ≤ P * 108853 / 32768 ∧ P * 108853 / 32768 ≤ 3000 ∧ 0 ≤ -(e + P * 108853 / 32768 + 3) ∧ -(e + P * 108853 / 32768 + 3) ≤ 10000) := by show _ ∧ _; omega
 obtain ⟨LP, hLP⟩ : ∃ LP, P * 108853 / 32768 = LP := ⟨_, rfl⟩
 have hP : Hid (-348 ≤ P ∧ P < 348) := by show _ ∧ _; omega
 have hPb : -400 ≤ -P ∧ -P ≤ 399 := by omega
 rw [hLP] at hLp
 obtain ⟨S, hS⟩ : ∃ S, -(e + LP + 3) = S := ⟨_, rfl⟩
 rw [hS] at hLp
 obtain ⟨TH, hTH⟩ : ∃ TH, hi (P + 348).toNat = TH := ⟨_, rfl⟩
 obtain ⟨TL, hTL⟩ : ∃ TL, lo (P + 348).toNat = TL := ⟨_, rfl⟩
 have hth := hhi (P + 348).toNat
 have htl := hlo (P + 348).toNat
 rw [hTH] at hth
 rw [hTL] at htl
 obtain ⟨r1, ⟨a1, b1⟩, u1⟩ := uscale_calls X TH TL S (by omega) (by omega) hth.1 hth.2 htl.1 htl.2 hLp.out.2.2.1 hLp.out.2.2.2
 obtain ⟨n1, ⟨a2, b2⟩, u2⟩ := nudge_calls r1 O
 obtain ⟨c1, ⟨a3, b3⟩, u3⟩ := ceil_calls n1
 obtain ⟨r2, ⟨a4, b4⟩, u4⟩ := uscale_calls Y TH TL S (by omega) (by omega) hth.1 hth.2 htl.1 htl.2 hLp.out.2.2.1 hLp.out.2.2.2
 obtain ⟨n2, ⟨a5, b5⟩, u5⟩ := nudge_calls r2 (-O)
 obtain ⟨c2, ⟨a6, b6⟩, u6⟩ := floor_calls n2 a5 b5
 obtain ⟨r3, ⟨a7, b7⟩, u7⟩ := uscale_calls 9223372036854775808 TH TL S (by omega) (by omega) hth.1 hth.2 htl.1 htl.2 hLp.out.2.2.1 hLp.out.2.2.2
 obtain ⟨c3, ⟨a8, b8⟩, u8⟩ := round_calls r3 a7 b7
 have U1 := Lib.hid u1
 clear u1
 have U2 := Lib.hid u2
 clear u2
 have U3 := Lib.hid u3
 clear u3
 have U4 := Lib.hid u4
 clear u4
 have U5 := Lib.hid u5
 clear u5
 have U6 := Lib.hid u6
 clear u6
 have U7 := Lib.hid u7
 clear u7
 have U8 := Lib.hid u8
 clear u8
 have HTH := Lib.hid hTH
 have HTL := Lib.hid hTL
 have HHI := Lib.hid hhi
 have HLO := Lib.hid hlo
 clear hTH hTL hhi hlo hth htl
 have HSS := Lib.hid hS
 have HLL := Lib.hid hLP
 clear hS hLP
 by_cases k1 : c1 ≤ c2 / 10 * 10
 ·have k1d : decide (c1 ≤ c2 / 10 * 10) = true := decide_eq_true k1
  refine ⟨c2 / 10, -(P - 1), by omega, by omega, ?_⟩
  intro w hT
  have HT := Lib.hid hT
  clear hT
  have HPn := Lib.hid hPn
  have HZ := Lib.hid hZ
  clear hPn hZ
  go_enter Tryz.func194, Tryz.ntmps194
  go_wp2_with fail
  rw [show (11 + (-1085 - e)) = (Z : Int) by have := HZ.out; omega]
  rw [show e + (Z : Int) = -1074 by have := HZ.out; omega]
  refine (log10Pow2_calls (-1074) (by omega) (by omega) _).mono ?_
  rintro e' w0 ⟨rfl, rfl⟩
  rw [show ((-1074 : Int) * 78913 / 262144) = -P by rw [← HPn.out]; decide]
  go_wp2_with fail
  refine (log2Pow10_calls P (by have := hP.out; omega) (by have := hP.out; omega) _).mono ?_
  rintro e' w1 ⟨rfl, rfl⟩
  rw [HLL.out]
  go_wp2_with fail
  refine (prescale_calls hi lo e P LP w0 HT.out hP.out.1 hP.out.2 (by omega) (by omega) hLp.out.1 hLp.out.2.1).mono ?_
  rintro e' w2 ⟨rfl, rfl⟩
  rw [HTH.out, HTL.out, HSS.out]
  go_wp2_with fail
  refine (U1.out _ _ (by simp [go_sem]) (by simp [go_sem]) (by simp [go_sem])).mono ?_
  rintro e' w3 ⟨rfl, hb3⟩
  have q0 : w3.cell? ⟨w0.heap.size, 0, none⟩ = some (.int .u64 TH) := (hb3.cell (by simp)).trans (by simp [go_sem])
  have q1 : w3.cell? ⟨w0.heap.size, 1, none⟩ = some (.int .u64 TL) := (hb3.cell (by simp)).trans (by simp [go_sem])
  have q2 : w3.cell? ⟨w0.heap.size, 2, none⟩ = some (.int .i64 S) := (hb3.cell (by simp)).trans (by simp [go_sem])
  have B3 : Hid (Below w0.heap.size w0 w3) := ((Below.refl _ _).alloc (Nat.le_refl _) _).trans (hb3.mono (by simp))
  have hz3 : w0.heap.size < w3.heap.size := by have := hb3.size; simp at this; omega
  have Q0 := Lib.hid q0
  have Q1 := Lib.hid q1
  have Q2 := Lib.hid q2
  clear hb3 q0 q1 q2
  go_wp2_with fail
  refine (U2.out _).mono ?_
  rintro e' w4 ⟨rfl, rfl⟩
  go_wp2_with fail
  refine (U3.out _).mono ?_
  rintro e' w4 ⟨rfl, rfl⟩
  go_wp2_with fail
  refine (U4.out _ _ Q0.out Q1.out Q2.out).mono ?_
  rintro e' w5 ⟨rfl, hb5⟩
  have Q3 : Hid (w5.cell? ⟨w0.heap.size, 0, none⟩ = some (.int .u64 TH)) := (hb5.cell hz3).trans Q0.out
  have Q4 : Hid (w5.cell? ⟨w0.heap.size, 1, none⟩ = some (.int .u64 TL)) := (hb5.cell hz3).trans Q1.out
  have Q5 : Hid (w5.cell? ⟨w0.heap.size, 2, none⟩ = some (.int .i64 S)) := (hb5.cell hz3).trans Q2.out
  have B5 : Hid (Below w0.heap.size w0 w5) := B3.out.trans (hb5.mono (by omega))
  clear hb5
  go_wp2_with fail
  refine (U5.out _).mono ?_
  rintro e' w6 ⟨rfl, rfl⟩
  go_wp2_with fail
  refine (U6.out _).mono ?_
  rintro e' w6 ⟨rfl, rfl⟩
  go_wp2
  go_ret2
  exact ⟨rfl, B5.out⟩
 ·have k1d : decide (c1 ≤ c2 / 10 * 10) = false := decide_eq_false k1
  by_cases k2 : c1 < c2
  ·have k2d : decide (c1 < c2) = true := decide_eq_true k2
   refine ⟨c3, -P, by omega, by omega, ?_⟩
   intro w hT
   have HT := Lib.hid hT
   clear hT
   have HPn := Lib.hid hPn
   have HZ := Lib.hid hZ
   clear hPn hZ
   go_enter Tryz.func194, Tryz.ntmps194
   go_wp2_with fail
   rw [show (11 + (-1085 - e)) = (Z : Int) by have := HZ.out; omega]
   rw [show e + (Z : Int) = -1074 by have := HZ.out; omega]
   refine (log10Pow2_calls (-1074) (by omega) (by omega) _).mono ?_
   rintro e' w0 ⟨rfl, rfl⟩
   rw [show ((-1074 : Int) * 78913 / 262144) = -P by rw [← HPn.out]; decide]
   go_wp2_with fail
   refine (log2Pow10_calls P (by have := hP.out; omega) (by have := hP.out; omega) _).mono ?_
   rintro e' w1 ⟨rfl, rfl⟩
   rw [HLL.out]
   go_wp2_with fail
   refine (prescale_calls hi lo e P LP w0 HT.out hP.out.1 hP.out.2 (by omega) (by omega) hLp.out.1 hLp.out.2.1).mono ?_
   rintro e' w2 ⟨rfl, rfl⟩
   rw [HTH.out, HTL.out, HSS.out]
   go_wp2_with fail
   refine (U1.out _ _ (by simp [go_sem]) (by simp [go_sem]) (by simp [go_sem])).mono ?_
   rintro e' w3 ⟨rfl, hb3⟩
   have q0 : w3.cell? ⟨w0.heap.size, 0, none⟩ = some (.int .u64 TH) := (hb3.cell (by simp)).trans (by simp [go_sem])
   have q1 : w3.cell? ⟨w0.heap.size, 1, none⟩ = some (.int .u64 TL) := (hb3.cell (by simp)).trans (by simp [go_sem])
   have q2 : w3.cell? ⟨w0.heap.size, 2, none⟩ = some (.int .i64 S) := (hb3.cell (by simp)).trans (by simp [go_sem])
   have B3 : Hid (Below w0.heap.size w0 w3) := ((Below.refl _ _).alloc (Nat.le_refl _) _).trans (hb3.mono (by simp))
   have hz3 : w0.heap.size < w3.heap.size := by have := hb3.size; simp at this; omega
   have Q0 := Lib.hid q0
   have Q1 := Lib.hid q1
   have Q2 := Lib.hid q2
   clear hb3 q0 q1 q2
   go_wp2_with fail
   refine (U2.out _).mono ?_
   rintro e' w4 ⟨rfl, rfl⟩
   go_wp2_with fail
   refine (U3.out _).mono ?_
   rintro e' w4 ⟨rfl, rfl⟩
   go_wp2_with fail
   refine (U4.out _ _ Q0.out Q1.out Q2.out).mono ?_
   rintro e' w5 ⟨rfl, hb5⟩
   have Q3 : Hid (w5.cell? ⟨w0.heap.size, 0, none⟩ = some (.int .u64 TH)) := (hb5.cell hz3).trans Q0.out
   have Q4 : Hid (w5.cell? ⟨w0.heap.size, 1, none⟩ = some (.int .u64 TL)) := (hb5.cell hz3).trans Q1.out
   have Q5 : Hid (w5.cell? ⟨w0.heap.size, 2, none⟩ = some (.int .i64 S)) := (hb5.cell hz3).trans Q2.out
   have B5 : Hid (Below w0.heap.size w0 w5) := B3.out.trans (hb5.mono (by omega))
   clear hb5
   go_wp2_with fail
   refine (U5.out _).mono ?_
   rintro e' w6 ⟨rfl, rfl⟩
   go_wp2_with fail
   refine (U6.out _).mono ?_
   rintro e' w6 ⟨rfl, rfl⟩
   go_wp2_with fail
   refine (U7.out _ _ Q3.out Q4.out Q5.out).mono ?_
   rintro e' w7 ⟨rfl, hb7⟩
   have B7 : Hid (Below w0.heap.size w0 w7) := B5.out.trans (hb7.mono (by have := B5.out.size; omega))
   clear hb7
   go_wp2_with fail
   refine (U8.out _).mono ?_
   rintro e' w8 ⟨rfl, rfl⟩
   go_wp2
   go_ret2
   exact ⟨rfl, B7.out⟩
  ·have k2d : decide (c1 < c2) = false := decide_eq_false k2
   refine ⟨c1, -P, by omega, by omega, ?_⟩
   intro w hT
   have HT := Lib.hid hT
   clear hT
   have HPn := Lib.hid hPn
   have HZ := Lib.hid hZ
   clear hPn hZ
   go_enter Tryz.func194, Tryz.ntmps194
   go_wp2_with fail
   rw [show (11 + (-1085 - e)) = (Z : Int) by have := HZ.out; omega]
   rw [show e + (Z : Int) = -1074 by have := HZ.out; omega]
   refine (log10Pow2_calls (-1074) (by omega) (by omega) _).mono ?_
   rintro e' w0 ⟨rfl, rfl⟩
   rw [show ((-1074 : Int) * 78913 / 262144) = -P by rw [← HPn.out]; decide]
   go_wp2_with fail
   refine (log2Pow10_calls P (by have := hP.out; omega) (by have := hP.out; omega) _).mono ?_
   rintro e' w1 ⟨rfl, rfl⟩
   rw [HLL.out]
   go_wp2_with fail
   refine (prescale_calls hi lo e P LP w0 HT.out hP.out.1 hP.out.2 (by omega) (by omega) hLp.out.1 hLp.out.2.1).mono ?_
   rintro e' w2 ⟨rfl, rfl⟩
   rw [HTH.out, HTL.out, HSS.out]
   go_wp2_with fail
   refine (U1.out _ _ (by simp [go_sem]) (by simp [go_sem]) (by simp [go_sem])).mono ?_
   rintro e' w3 ⟨rfl, hb3⟩
   have q0 : w3.cell? ⟨w0.heap.size, 0, none⟩ = some (.int .u64 TH) := (hb3.cell (by simp)).trans (by simp [go_sem])
   have q1 : w3.cell? ⟨w0.heap.size, 1, none⟩ = some (.int .u64 TL) := (hb3.cell (by simp)).trans (by simp [go_sem])
   have q2 : w3.cell? ⟨w0.heap.size, 2, none⟩ = some (.int .i64 S) := (hb3.cell (by simp)).trans (by simp [go_sem])
   have B3 : Hid (Below w0.heap.size w0 w3) := ((Below.refl _ _).alloc (Nat.le_refl _) _).trans (hb3.mono (by simp))
   have hz3 : w0.heap.size < w3.heap.size := by have := hb3.size; simp at this; omega
   have Q0 := Lib.hid q0
   have Q1 := Lib.hid q1
   have Q2 := Lib.hid q2
   clear hb3 q0 q1 q2
   go_wp2_with fail
   refine (U2.out _).mono ?_
   rintro e' w4 ⟨rfl, rfl⟩
   go_wp2_with fail
   refine (U3.out _).mono ?_
   rintro e' w4 ⟨rfl, rfl⟩
   go_wp2_with fail
   refine (U4.out _ _ Q0.out Q1.out Q2.out).mono ?_
   rintro e' w5 ⟨rfl, hb5⟩
   have Q3 : Hid (w5.cell? ⟨w0.heap.size, 0, none⟩ = some (.int .u64 TH)) := (hb5.cell hz3).trans Q0.out
   have Q4 : Hid (w5.cell? ⟨w0.heap.size, 1, none⟩ = some (.int .u64 TL)) := (hb5.cell hz3).trans Q1.out
   have Q5 : Hid (w5.cell? ⟨w0.heap.size, 2, none⟩ = some (.int .i64 S)) := (hb5.cell hz3).trans Q2.out
   have B5 : Hid (Below w0.heap.size w0 w5) := B3.out.trans (hb5.mono (by omega))
   clear hb5
   go_wp2_with fail
   refine (U5.out _).mono ?_
   rintro e' w6 ⟨rfl, rfl⟩
   go_wp2_with fail
   refine (U6.out _).mono ?_
   rintro e' w6 ⟨rfl, rfl⟩
   go_wp2
   go_ret2
   exact ⟨rfl, B5.out⟩
theorem shortFloat_calls (hi lo : Nat → Int) (hhi : ∀ i, 0 ≤ hi i ∧ hi i < 18446744073709551616) (hlo : ∀ i, 0 ≤ lo i ∧ lo i < 18446744073709551616) (m e : Int) (h0 : 0 ≤ m) (h1 : m < 18446744073709551616) (e0 : -1137 ≤ e) (e1 : e ≤ 960) :
  ∃ d p : Int, (0 ≤ d ∧ d < 18446744073709551616) ∧ (-360 ≤ p ∧ p ≤ 360) ∧ ∀ w, TabW hi lo w → Calls Tryz.prog 194 #[.int .u64 m, .int .i64 e] w fun e' w' => e' = .returned (.tuple #[.int .u64 d, .int .i64 p]) ∧ Below w.heap.size w w' := by
 by_cases hm : m = 9223372036854775808
 ·rcases (by omega : -1085 < e ∨ e = -1085 ∨ e < -1085) with he | he | he
  ·exact shortFloat_a hi lo hhi hlo m e h0 h1 e1 hm he
  ·exact shortFloat_d hi lo hhi hlo m e h0 h1 he hm
  ·exact shortFloat_f hi lo hhi hlo m e h0 h1 he e0 hm
 ·by_cases he : -1085 ≤ e
  ·exact shortFloat_b hi lo hhi hlo m e h0 h1 e1 hm he
  ·exact shortFloat_c hi lo hhi hlo m e h0 h1 (by omega) e0 hm
end Go.Proofs.YtkeakdjbidbegaaGreatDoor
