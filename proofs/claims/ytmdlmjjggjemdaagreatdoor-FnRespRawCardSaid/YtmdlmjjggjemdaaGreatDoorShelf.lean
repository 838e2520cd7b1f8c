/-
  DERIVED: THE SHELF's CONTRACTS AT THIS DUMP, IN PLAIN WORDS (tools/lay-plain.mjs out of 'TryzShelf.lean', which tools/lay-shelf.mjs wrote): THE SAME DECLARATIONS UNDER THE SAME NAMES: 'import', 'namespace', 'open', 'def', 'theorem' AND NOTHING ELSE: no command of the shelf's: FOR A HAND-IN. Each laying: the table of numbers ('.._ren') and one theorem, a field a fact of the dump's own or the kernel's comparison; each contract: ONE APPLICATION.
-/
import Derived.Shelf.Small.Strs
import Derived.Shelf.Strconv.Atoi
import Derived.Shelf.Strconv.Itoa0
import Derived.Shelf.Strconv.Itoa1
import Derived.Shelf.LaysM
import Derived.Shelf.Strconv.Itoa2
import Derived.Shelf.Strconv.Itoa3
import Derived.Shelf.Strconv.Itoa4
import Derived.Shelf.Strconv.AtoiErrFast
import Derived.Shelf.Strconv.ParseIntEmpty
import Derived.Shelf.Strconv.AtoiFail
import Derived.Shelf.Strconv.Clone
import Derived.Shelf.Strconv.SyntaxError
import Derived.Shelf.LaysC
import Derived.Shelf.Strconv.ToError
import Derived.Shelf.Strconv.Lower
import Derived.Shelf.Strconv.ParseUint10
import Derived.Shelf.Strconv.ParseUint10Empty
import Derived.Shelf.Strconv.ParseUint10Any
import Derived.Shelf.Strconv.ParseInt10
import Derived.Shelf.Strconv.AtoiLong
import Derived.Shelf.Strconv.AtoiInnerAll
import Derived.Shelf.Strconv.RangeError
import Derived.Shelf.Strconv.ToErrorRange
import Derived.Shelf.Strconv.AtoiAll
import Derived.Shelf.Strconv.ErrVarAll
import Derived.Shelf.Strconv.ParseUintEmpty
import Derived.Shelf.Strconv.ParseUint10b64
import Derived.Shelf.Strconv.ParseUint10b32
import Derived.Shelf.Strconv.ParseUint10b16
import Derived.Shelf.Strconv.ParseUint10b8
import Derived.Shelf.Strconv.ParseUint10At
import Derived.Shelf.Strconv.ParseInt10At64
import Derived.Shelf.Strconv.ParseInt10At32
import Derived.Shelf.Strconv.ParseInt10At16
import Derived.Shelf.Strconv.ParseInt10At8
import Derived.Shelf.Strconv.ParseInt10All
import Derived.Shelf.Strings.Search1
import Derived.Shelf.Bits.Mul64
import Derived.Test.YtmdlmjjggjemdaaGreatDoorProg
namespace Go.Proofs
open Go.Shelf
def Tryz.lays137_ren : Go.Shelf.Ren := ⟨fun | 137 => 73 | 217 => 82 | 266 => 92 | n => n, fun | 9 => 9 | 5 => 5 | 3 => 3 | n => n, fun | n => n⟩
theorem Tryz.lays137 : Go.Proofs.Lays.n137 Tryz.prog Tryz.lays137_ren := {
  mixed := by kernel_rfl
  f137 := Tryz.func73.trans (congrArg some (by kernel_rfl))
  f217 := Tryz.func82.trans (congrArg some (by kernel_rfl))
  f266 := Tryz.func92.trans (congrArg some (by kernel_rfl))
  t3 := Tryz.underlying3
  a3 := Tryz.isAgg3
  z3 := Tryz.sizeOf3
  v3 := Tryz.zeroValue3
  t5 := Tryz.underlying5
  a5 := Tryz.isAgg5
  z5 := Tryz.sizeOf5
  v5 := Tryz.zeroValue5
  t9 := Tryz.underlying9
  a9 := Tryz.isAgg9
  z9 := Tryz.sizeOf9
  v9 := Tryz.zeroValue9 }
open Go.RowKit in
/-- strings.IndexByte: "IndexByte returns the index of the first instance of c in s, or -1 if c is not present in s.": IT RETURNS 'Lib.indexByte s c'; the world is as it was. (LAID: no walk: one application.) -/
theorem Tryz.strings_IndexByte (s : ByteArray) (c : Int) (w : World) :
    Calls Tryz.prog 73 #[.string s, .int .u8 c] w fun e w' => e = .returned (.int .i64 (Lib.indexByte s.data.toList c.toNat.toUInt8)) ∧ w' = w := Any.strings_IndexByte Tryz.lays137 s c w
def Tryz.lays129_ren : Go.Shelf.Ren := ⟨fun | 129 => 84 | n => n, fun | 53 => 22 | 3 => 3 | 4 => 4 | 46 => 120 | 5 => 5 | 9 => 9 | n => n, fun | n => n⟩
theorem Tryz.lays129 : Go.Proofs.Lays.n129 Tryz.prog Tryz.lays129_ren := {
  mixed := by kernel_rfl
  f129 := Tryz.func84.trans (congrArg some (by kernel_rfl))
  t3 := Tryz.underlying3
  a3 := Tryz.isAgg3
  z3 := Tryz.sizeOf3
  v3 := Tryz.zeroValue3
  t4 := Tryz.underlying4
  a4 := Tryz.isAgg4
  z4 := Tryz.sizeOf4
  v4 := Tryz.zeroValue4
  t5 := Tryz.underlying5
  a5 := Tryz.isAgg5
  z5 := Tryz.sizeOf5
  v5 := Tryz.zeroValue5
  t9 := Tryz.underlying9
  a9 := Tryz.isAgg9
  z9 := Tryz.sizeOf9
  v9 := Tryz.zeroValue9
  t46 := Tryz.underlying120
  a46 := Tryz.isAgg120
  z46 := Tryz.sizeOf120
  v46 := Tryz.zeroValue120
  t53 := Tryz.underlying22
  a53 := Tryz.isAgg22
  z53 := Tryz.sizeOf22
  v53 := Tryz.zeroValue22 }
/-- bits.Len64: "Len64 returns the minimum number of bits required to represent x; the result is 0 for x == 0.": IT RETURNS 'Lib.bitLen x'; the world is as it was. ('h0', 'h1': x is a uint64.) (LAID: no walk: one application.) -/
theorem Tryz.bits_Len64 (x : Int) (w : World) (h0 : 0 ≤ x) (h1 : x ≤ 18446744073709551615) :
    Calls Tryz.prog 84 #[.int .u64 x] w fun e w' => e = .returned (.int .i64 (Lib.bitLen x.toNat)) ∧ w' = w := Any.bits_Len64 Tryz.lays129 x w h0 h1
def Tryz.lays318_ren : Go.Shelf.Ren := ⟨fun | 318 => 85 | n => n, fun | 3 => 3 | 4 => 4 | n => n, fun | n => n⟩
theorem Tryz.lays318 : Go.Proofs.Lays.n318 Tryz.prog Tryz.lays318_ren := {
  mixed := by kernel_rfl
  f318 := Tryz.func85.trans (congrArg some (by kernel_rfl))
  t3 := Tryz.underlying3
  a3 := Tryz.isAgg3
  z3 := Tryz.sizeOf3
  v3 := Tryz.zeroValue3
  t4 := Tryz.underlying4
  a4 := Tryz.isAgg4
  z4 := Tryz.sizeOf4
  v4 := Tryz.zeroValue4 }
open Go.Lib in
/-- internal/strconv.bool2: "bool2 converts b to an integer: 1 for true, 0 for false." The world is as it was. (LAID: no walk: one application.) -/
theorem Tryz.internal_strconv_bool2_int (b : Bool) (w : World) :
    Calls Tryz.prog 85 #[.bool b] w fun e w' => e = .returned (.int .i64 (if b then 1 else 0)) ∧ w' = w := Any.internal_strconv_bool2_int Tryz.lays318 b w
def Tryz.laysM284_ren : Go.Shelf.Ren := ⟨fun | 284 => 76 | 129 => 84 | 317 => 83 | 318 => 85 | n => n, fun | 53 => 22 | 3 => 3 | 212 => 130 | 0 => 0 | 4 => 4 | 46 => 120 | 5 => 5 | 9 => 9 | n => n, fun | 17 => 1 | n => n⟩
theorem Tryz.laysM284 : Go.Proofs.LaysM.n284 Tryz.prog Tryz.laysM284_ren := {
  mixed := by kernel_rfl
  f129 := Tryz.func84.trans (congrArg some (by kernel_rfl))
  f284 := Tryz.func76.trans (congrArg some (by kernel_rfl))
  f317 := Tryz.func83.trans (congrArg some (by kernel_rfl))
  f318 := Tryz.func85.trans (congrArg some (by kernel_rfl))
  t0 := Tryz.underlying0
  a0 := Tryz.isAgg0
  z0 := Tryz.sizeOf0
  v0 := Tryz.zeroValue0
  t3 := Tryz.underlying3
  a3 := Tryz.isAgg3
  z3 := Tryz.sizeOf3
  v3 := Tryz.zeroValue3
  t4 := Tryz.underlying4
  a4 := Tryz.isAgg4
  z4 := Tryz.sizeOf4
  v4 := Tryz.zeroValue4
  t5 := Tryz.underlying5
  a5 := Tryz.isAgg5
  z5 := Tryz.sizeOf5
  v5 := Tryz.zeroValue5
  t9 := Tryz.underlying9
  a9 := Tryz.isAgg9
  z9 := Tryz.sizeOf9
  v9 := Tryz.zeroValue9
  t46 := Tryz.underlying120
  a46 := Tryz.isAgg120
  z46 := Tryz.sizeOf120
  v46 := Tryz.zeroValue120
  t53 := Tryz.underlying22
  a53 := Tryz.isAgg22
  z53 := Tryz.sizeOf22
  v53 := Tryz.zeroValue22
  t212 := Tryz.underlying130
  a212 := Tryz.isAgg130
  z212 := Tryz.sizeOf130
  v212 := Tryz.zeroValue130
  g17 := by kernel_rfl
  i0 := by kernel_rfl
  i3 := by kernel_rfl
  i4 := by kernel_rfl
  i5 := by kernel_rfl
  i9 := by kernel_rfl
  i46 := by kernel_rfl
  i53 := by kernel_rfl
  i212 := by kernel_rfl
  m17 := by kernel_rfl }
open Go.Lib in
/-- internal/strconv.numDigits, at a d that is not 0: THE NUMBER OF d's DECIMAL DIGITS. The world is as it was. (LAID: no walk: one application.) -/
theorem Tryz.internal_strconv_numDigits (u : Nat) (h1 : 1 ≤ u) (h2 : u < 18446744073709551616) (w : World) (htab : Lib.TabIs Tryz.prog w "internal/strconv.uint64pow10" .u64 Lib.pow10Tab) :
    Calls Tryz.prog 76 #[.int .u64 u] w fun e w' => e = .returned (.int .i64 (Lib.nDigits u)) ∧ w' = w := Any.internal_strconv_numDigits Tryz.laysM284 u h1 h2 w htab
def Tryz.lays285_ren : Go.Shelf.Ren := ⟨fun | 285 => 77 | n => n, fun | 37 => 41 | 53 => 22 | 3 => 3 | 4 => 4 | 51 => 110 | 9 => 9 | 5 => 5 | 0 => 0 | n => n, fun | n => n⟩
theorem Tryz.lays285 : Go.Proofs.Lays.n285 Tryz.prog Tryz.lays285_ren := {
  mixed := by kernel_rfl
  f285 := Tryz.func77.trans (congrArg some (by kernel_rfl))
  t0 := Tryz.underlying0
  a0 := Tryz.isAgg0
  z0 := Tryz.sizeOf0
  v0 := Tryz.zeroValue0
  t3 := Tryz.underlying3
  a3 := Tryz.isAgg3
  z3 := Tryz.sizeOf3
  v3 := Tryz.zeroValue3
  t4 := Tryz.underlying4
  a4 := Tryz.isAgg4
  z4 := Tryz.sizeOf4
  v4 := Tryz.zeroValue4
  t5 := Tryz.underlying5
  a5 := Tryz.isAgg5
  z5 := Tryz.sizeOf5
  v5 := Tryz.zeroValue5
  t9 := Tryz.underlying9
  a9 := Tryz.isAgg9
  z9 := Tryz.sizeOf9
  v9 := Tryz.zeroValue9
  t37 := Tryz.underlying41
  a37 := Tryz.isAgg41
  z37 := Tryz.sizeOf41
  v37 := Tryz.zeroValue41
  t51 := Tryz.underlying110
  a51 := Tryz.isAgg110
  z51 := Tryz.sizeOf110
  v51 := Tryz.zeroValue110
  t53 := Tryz.underlying22
  a53 := Tryz.isAgg22
  z53 := Tryz.sizeOf22
  v53 := Tryz.zeroValue22 }
open Go.RowKit Go.Sort Go.Lib in
/-- internal/strconv.formatBase10: "formatBase10 formats the decimal representation of u into a. The caller is responsible for ensuring that a is big enough to hold u. If a is too big, leading zeros will be filled in as needed.": THE ROW HOLDS u's DIGITS ('FmtInv .. 0 ..': every place t holds 'dg u (len - 1 - t)'); all else is as it was but for the count of draws. (LAID: no walk: one application.) -/
theorem Tryz.internal_strconv_formatBase10 (blk off cap : Nat) (u : Nat) (d : Array UInt8) (w : World) (hH : Holds (fun (b : UInt8) => Value.int .u8 (b.toNat : Int)) w blk off d) (hu : u < 10 ^ d.size) (hu64 : u < 18446744073709551616) (hsz : d.size < 4611686018427387904) :
    Calls Tryz.prog 77 #[.slice (some ⟨blk, off, none⟩) d.size cap, .int .u64 u] w fun e w' =>
      e = .returned (.tuple #[]) ∧ ∃ (n v' : Nat) (dk : Array UInt8), w' = (putRow (fun (b : UInt8) => Value.int .u8 (b.toNat : Int)) w blk off dk).drewN n ∧ FmtInv d.size u 0 v' dk := Any.internal_strconv_formatBase10 Tryz.lays285 blk off cap u d w hH hu hu64 hsz
def Tryz.laysM171_ren : Go.Shelf.Ren := ⟨fun | 171 => 37 | 243 => 61 | 246 => 62 | 283 => 75 | 284 => 76 | 285 => 77 | 286 => 78 | 129 => 84 | 317 => 83 | 318 => 85 | 319 => 86 | 320 => 87 | 337 => 93 | 338 => 94 | n => n, fun | 3 => 3 | 9 => 9 | 2 => 2 | 4 => 4 | 171 => 122 | 0 => 0 | 53 => 22 | 37 => 41 | 5 => 5 | 173 => 124 | 212 => 130 | 51 => 110 | 20 => 20 | 213 => 131 | 46 => 120 | 232 => 143 | 233 => 158 | n => n, fun | 17 => 1 | 18 => 4 | 19 => 5 | n => n⟩
theorem Tryz.laysM171 : Go.Proofs.LaysM.n171 Tryz.prog Tryz.laysM171_ren := {
  mixed := by kernel_rfl
  f129 := Tryz.func84.trans (congrArg some (by kernel_rfl))
  f171 := Tryz.func37.trans (congrArg some (by kernel_rfl))
  f243 := Tryz.func61.trans (congrArg some (by kernel_rfl))
  f246 := Tryz.func62.trans (congrArg some (by kernel_rfl))
  f283 := Tryz.func75.trans (congrArg some (by kernel_rfl))
  f284 := Tryz.func76.trans (congrArg some (by kernel_rfl))
  f285 := Tryz.func77.trans (congrArg some (by kernel_rfl))
  f286 := Tryz.func78.trans (congrArg some (by kernel_rfl))
  f317 := Tryz.func83.trans (congrArg some (by kernel_rfl))
  f318 := Tryz.func85.trans (congrArg some (by kernel_rfl))
  f319 := Tryz.func86.trans (congrArg some (by kernel_rfl))
  f320 := Tryz.func87.trans (congrArg some (by kernel_rfl))
  f337 := Tryz.func93.trans (congrArg some (by kernel_rfl))
  f338 := Tryz.func94.trans (congrArg some (by kernel_rfl))
  t0 := Tryz.underlying0
  a0 := Tryz.isAgg0
  z0 := Tryz.sizeOf0
  v0 := Tryz.zeroValue0
  t2 := Tryz.underlying2
  a2 := Tryz.isAgg2
  z2 := Tryz.sizeOf2
  v2 := Tryz.zeroValue2
  t3 := Tryz.underlying3
  a3 := Tryz.isAgg3
  z3 := Tryz.sizeOf3
  v3 := Tryz.zeroValue3
  t4 := Tryz.underlying4
  a4 := Tryz.isAgg4
  z4 := Tryz.sizeOf4
  v4 := Tryz.zeroValue4
  t5 := Tryz.underlying5
  a5 := Tryz.isAgg5
  z5 := Tryz.sizeOf5
  v5 := Tryz.zeroValue5
  t9 := Tryz.underlying9
  a9 := Tryz.isAgg9
  z9 := Tryz.sizeOf9
  v9 := Tryz.zeroValue9
  t20 := Tryz.underlying20
  a20 := Tryz.isAgg20
  z20 := Tryz.sizeOf20
  v20 := Tryz.zeroValue20
  t37 := Tryz.underlying41
  a37 := Tryz.isAgg41
  z37 := Tryz.sizeOf41
  v37 := Tryz.zeroValue41
  t46 := Tryz.underlying120
  a46 := Tryz.isAgg120
  z46 := Tryz.sizeOf120
  v46 := Tryz.zeroValue120
  t51 := Tryz.underlying110
  a51 := Tryz.isAgg110
  z51 := Tryz.sizeOf110
  v51 := Tryz.zeroValue110
  t53 := Tryz.underlying22
  a53 := Tryz.isAgg22
  z53 := Tryz.sizeOf22
  v53 := Tryz.zeroValue22
  t171 := Tryz.underlying122
  a171 := Tryz.isAgg122
  z171 := Tryz.sizeOf122
  v171 := Tryz.zeroValue122
  t173 := Tryz.underlying124
  a173 := Tryz.isAgg124
  z173 := Tryz.sizeOf124
  v173 := Tryz.zeroValue124
  t212 := Tryz.underlying130
  a212 := Tryz.isAgg130
  z212 := Tryz.sizeOf130
  v212 := Tryz.zeroValue130
  t213 := Tryz.underlying131
  a213 := Tryz.isAgg131
  z213 := Tryz.sizeOf131
  t232 := Tryz.underlying143
  a232 := Tryz.isAgg143
  z232 := Tryz.sizeOf143
  v232 := Tryz.zeroValue143
  t233 := Tryz.underlying158
  a233 := Tryz.isAgg158
  z233 := Tryz.sizeOf158
  v233 := Tryz.zeroValue158
  g17 := by kernel_rfl
  g18 := by kernel_rfl
  g19 := by kernel_rfl
  i0 := by kernel_rfl
  i2 := by kernel_rfl
  i3 := by kernel_rfl
  i4 := by kernel_rfl
  i5 := by kernel_rfl
  i9 := by kernel_rfl
  i20 := by kernel_rfl
  i37 := by kernel_rfl
  i46 := by kernel_rfl
  i51 := by kernel_rfl
  i53 := by kernel_rfl
  i171 := by kernel_rfl
  i173 := by kernel_rfl
  i212 := by kernel_rfl
  i232 := by kernel_rfl
  i233 := by kernel_rfl
  m17 := by kernel_rfl
  m18 := by kernel_rfl
  m19 := by kernel_rfl }
open Go.RowKit Go.Sort Go.Lib in
/-- strconv.Itoa: "Itoa is equivalent to FormatInt(int64(i), 10).": i's DECIMAL NUMERAL ('Lib.itoa': a '-' where i is negative, then the digits), FOR EVERY int. The world behind the call: the world before it, new blocks behind the heap (the library's 'var a [24]byte'), draws. (LAID: no walk: one application.) -/
theorem Tryz.strconv_Itoa (n : Int) (h0 : -9223372036854775808 ≤ n) (h1 : n ≤ 9223372036854775807) (w : World) (htab : Lib.TabIs Tryz.prog w "internal/strconv.uint64pow10" .u64 Lib.pow10Tab) :
    Calls Tryz.prog 37 #[.int .i64 n] w fun e w' => e = .returned (.string ⟨(Lib.itoa n).toArray⟩) ∧ ∃ k os, w' = grow (w.drewN k) os := Any.strconv_Itoa Tryz.laysM171 n h0 h1 w htab
def Tryz.laysM173_ren : Go.Shelf.Ren := ⟨fun | 173 => 38 | 246 => 62 | 283 => 75 | 284 => 76 | 285 => 77 | 286 => 78 | 129 => 84 | 317 => 83 | 318 => 85 | 319 => 86 | 320 => 87 | 337 => 93 | 338 => 94 | n => n, fun | 2 => 2 | 3 => 3 | 9 => 9 | 4 => 4 | 171 => 122 | 0 => 0 | 53 => 22 | 37 => 41 | 5 => 5 | 173 => 124 | 212 => 130 | 51 => 110 | 20 => 20 | 213 => 131 | 46 => 120 | 232 => 143 | 233 => 158 | n => n, fun | 17 => 1 | 18 => 4 | 19 => 5 | n => n⟩
theorem Tryz.laysM173 : Go.Proofs.LaysM.n173 Tryz.prog Tryz.laysM173_ren := {
  mixed := by kernel_rfl
  f129 := Tryz.func84.trans (congrArg some (by kernel_rfl))
  f173 := Tryz.func38.trans (congrArg some (by kernel_rfl))
  f246 := Tryz.func62.trans (congrArg some (by kernel_rfl))
  f283 := Tryz.func75.trans (congrArg some (by kernel_rfl))
  f284 := Tryz.func76.trans (congrArg some (by kernel_rfl))
  f285 := Tryz.func77.trans (congrArg some (by kernel_rfl))
  f286 := Tryz.func78.trans (congrArg some (by kernel_rfl))
  f317 := Tryz.func83.trans (congrArg some (by kernel_rfl))
  f318 := Tryz.func85.trans (congrArg some (by kernel_rfl))
  f319 := Tryz.func86.trans (congrArg some (by kernel_rfl))
  f320 := Tryz.func87.trans (congrArg some (by kernel_rfl))
  f337 := Tryz.func93.trans (congrArg some (by kernel_rfl))
  f338 := Tryz.func94.trans (congrArg some (by kernel_rfl))
  t0 := Tryz.underlying0
  a0 := Tryz.isAgg0
  z0 := Tryz.sizeOf0
  v0 := Tryz.zeroValue0
  t2 := Tryz.underlying2
  a2 := Tryz.isAgg2
  z2 := Tryz.sizeOf2
  v2 := Tryz.zeroValue2
  t3 := Tryz.underlying3
  a3 := Tryz.isAgg3
  z3 := Tryz.sizeOf3
  v3 := Tryz.zeroValue3
  t4 := Tryz.underlying4
  a4 := Tryz.isAgg4
  z4 := Tryz.sizeOf4
  v4 := Tryz.zeroValue4
  t5 := Tryz.underlying5
  a5 := Tryz.isAgg5
  z5 := Tryz.sizeOf5
  v5 := Tryz.zeroValue5
  t9 := Tryz.underlying9
  a9 := Tryz.isAgg9
  z9 := Tryz.sizeOf9
  v9 := Tryz.zeroValue9
  t20 := Tryz.underlying20
  a20 := Tryz.isAgg20
  z20 := Tryz.sizeOf20
  v20 := Tryz.zeroValue20
  t37 := Tryz.underlying41
  a37 := Tryz.isAgg41
  z37 := Tryz.sizeOf41
  v37 := Tryz.zeroValue41
  t46 := Tryz.underlying120
  a46 := Tryz.isAgg120
  z46 := Tryz.sizeOf120
  v46 := Tryz.zeroValue120
  t51 := Tryz.underlying110
  a51 := Tryz.isAgg110
  z51 := Tryz.sizeOf110
  v51 := Tryz.zeroValue110
  t53 := Tryz.underlying22
  a53 := Tryz.isAgg22
  z53 := Tryz.sizeOf22
  v53 := Tryz.zeroValue22
  t171 := Tryz.underlying122
  a171 := Tryz.isAgg122
  z171 := Tryz.sizeOf122
  v171 := Tryz.zeroValue122
  t173 := Tryz.underlying124
  a173 := Tryz.isAgg124
  z173 := Tryz.sizeOf124
  v173 := Tryz.zeroValue124
  t212 := Tryz.underlying130
  a212 := Tryz.isAgg130
  z212 := Tryz.sizeOf130
  v212 := Tryz.zeroValue130
  t213 := Tryz.underlying131
  a213 := Tryz.isAgg131
  z213 := Tryz.sizeOf131
  t232 := Tryz.underlying143
  a232 := Tryz.isAgg143
  z232 := Tryz.sizeOf143
  v232 := Tryz.zeroValue143
  t233 := Tryz.underlying158
  a233 := Tryz.isAgg158
  z233 := Tryz.sizeOf158
  v233 := Tryz.zeroValue158
  g17 := by kernel_rfl
  g18 := by kernel_rfl
  g19 := by kernel_rfl
  i0 := by kernel_rfl
  i2 := by kernel_rfl
  i3 := by kernel_rfl
  i4 := by kernel_rfl
  i5 := by kernel_rfl
  i9 := by kernel_rfl
  i20 := by kernel_rfl
  i37 := by kernel_rfl
  i46 := by kernel_rfl
  i51 := by kernel_rfl
  i53 := by kernel_rfl
  i171 := by kernel_rfl
  i173 := by kernel_rfl
  i212 := by kernel_rfl
  i232 := by kernel_rfl
  i233 := by kernel_rfl
  m17 := by kernel_rfl
  m18 := by kernel_rfl
  m19 := by kernel_rfl }
open Go.RowKit Go.Sort Go.Lib in
/-- strconv.FormatInt: "FormatInt returns the string representation of i in the given base": AT BASE 10: i's decimal numeral, for every int64. (LAID: no walk: one application.) -/
theorem Tryz.strconv_FormatInt_10 (n : Int) (h0 : -9223372036854775808 ≤ n) (h1 : n ≤ 9223372036854775807) (w : World) (htab : Lib.TabIs Tryz.prog w "internal/strconv.uint64pow10" .u64 Lib.pow10Tab) :
    Calls Tryz.prog 38 #[.int .i64 n, .int .i64 10] w fun e w' => e = .returned (.string ⟨(Lib.itoa n).toArray⟩) ∧ ∃ k os, w' = grow (w.drewN k) os := Any.strconv_FormatInt_10 Tryz.laysM173 n h0 h1 w htab
def Tryz.laysC172_ren : Go.Shelf.Ren := ⟨fun | 172 => 80 | 244 => 90 | 245 => 91 | 247 => 107 | 279 => 108 | 280 => 109 | 281 => 110 | 282 => 111 | 287 => 131 | 316 => 132 | 171 => 37 | 205 => 43 | 321 => 114 | 322 => 137 | 243 => 61 | 246 => 62 | 283 => 75 | 284 => 76 | 285 => 77 | 286 => 78 | 129 => 84 | 317 => 83 | 318 => 85 | 319 => 86 | 320 => 87 | 337 => 93 | 338 => 94 | n => n, fun | 9 => 9 | 3 => 3 | 75 => 43 | 76 => 81 | 4 => 4 | 5 => 5 | 167 => 153 | 37 => 41 | 0 => 0 | 85 => 50 | 2 => 2 | 168 => 155 | 53 => 22 | 175 => 174 | 46 => 120 | 210 => 177 | 127 => 189 | 145 => 105 | 143 => 103 | 21 => 21 | 171 => 122 | 173 => 124 | 212 => 130 | 51 => 110 | 20 => 20 | 213 => 131 | 232 => 143 | 233 => 158 | 80 => 190 | n => n, fun | 15 => 6 | 16 => 7 | 17 => 1 | 18 => 4 | 19 => 5 | n => n⟩
theorem Tryz.laysC172 : Go.Proofs.LaysC.n172 Tryz.prog Tryz.laysC172_ren := {
  mixed := by kernel_rfl
  f129 := Tryz.func84.trans (congrArg some (by kernel_rfl))
  f171 := Tryz.func37.trans (congrArg some (by kernel_rfl))
  f172 := Tryz.func80.trans (congrArg some (by kernel_rfl))
  f205 := Tryz.func43.trans (congrArg some (by kernel_rfl))
  f243 := Tryz.func61.trans (congrArg some (by kernel_rfl))
  f244 := Tryz.func90.trans (congrArg some (by kernel_rfl))
  f245 := Tryz.func91.trans (congrArg some (by kernel_rfl))
  f246 := Tryz.func62.trans (congrArg some (by kernel_rfl))
  f247 := Tryz.func107.trans (congrArg some (by kernel_rfl))
  f279 := Tryz.func108.trans (congrArg some (by kernel_rfl))
  f280 := Tryz.func109.trans (congrArg some (by kernel_rfl))
  f281 := Tryz.func110.trans (congrArg some (by kernel_rfl))
  f282 := Tryz.func111.trans (congrArg some (by kernel_rfl))
  f283 := Tryz.func75.trans (congrArg some (by kernel_rfl))
  f284 := Tryz.func76.trans (congrArg some (by kernel_rfl))
  f285 := Tryz.func77.trans (congrArg some (by kernel_rfl))
  f286 := Tryz.func78.trans (congrArg some (by kernel_rfl))
  f287 := Tryz.func131.trans (congrArg some (by kernel_rfl))
  f316 := Tryz.func132.trans (congrArg some (by kernel_rfl))
  f317 := Tryz.func83.trans (congrArg some (by kernel_rfl))
  f318 := Tryz.func85.trans (congrArg some (by kernel_rfl))
  f319 := Tryz.func86.trans (congrArg some (by kernel_rfl))
  f320 := Tryz.func87.trans (congrArg some (by kernel_rfl))
  f321 := Tryz.func114.trans (congrArg some (by kernel_rfl))
  f322 := Tryz.func137.trans (congrArg some (by kernel_rfl))
  f337 := Tryz.func93.trans (congrArg some (by kernel_rfl))
  f338 := Tryz.func94.trans (congrArg some (by kernel_rfl))
  t0 := Tryz.underlying0
  a0 := Tryz.isAgg0
  z0 := Tryz.sizeOf0
  v0 := Tryz.zeroValue0
  t2 := Tryz.underlying2
  a2 := Tryz.isAgg2
  z2 := Tryz.sizeOf2
  v2 := Tryz.zeroValue2
  t3 := Tryz.underlying3
  a3 := Tryz.isAgg3
  z3 := Tryz.sizeOf3
  v3 := Tryz.zeroValue3
  t4 := Tryz.underlying4
  a4 := Tryz.isAgg4
  z4 := Tryz.sizeOf4
  v4 := Tryz.zeroValue4
  t5 := Tryz.underlying5
  a5 := Tryz.isAgg5
  z5 := Tryz.sizeOf5
  v5 := Tryz.zeroValue5
  t9 := Tryz.underlying9
  a9 := Tryz.isAgg9
  z9 := Tryz.sizeOf9
  v9 := Tryz.zeroValue9
  t20 := Tryz.underlying20
  a20 := Tryz.isAgg20
  z20 := Tryz.sizeOf20
  v20 := Tryz.zeroValue20
  t21 := Tryz.underlying21
  a21 := Tryz.isAgg21
  z21 := Tryz.sizeOf21
  v21 := Tryz.zeroValue21
  t37 := Tryz.underlying41
  a37 := Tryz.isAgg41
  z37 := Tryz.sizeOf41
  v37 := Tryz.zeroValue41
  t46 := Tryz.underlying120
  a46 := Tryz.isAgg120
  z46 := Tryz.sizeOf120
  v46 := Tryz.zeroValue120
  t51 := Tryz.underlying110
  a51 := Tryz.isAgg110
  z51 := Tryz.sizeOf110
  v51 := Tryz.zeroValue110
  t53 := Tryz.underlying22
  a53 := Tryz.isAgg22
  z53 := Tryz.sizeOf22
  v53 := Tryz.zeroValue22
  t75 := Tryz.underlying43
  a75 := Tryz.isAgg43
  z75 := Tryz.sizeOf43
  v75 := Tryz.zeroValue43
  t76 := Tryz.underlying81
  a76 := Tryz.isAgg81
  z76 := Tryz.sizeOf81
  v76 := Tryz.zeroValue81
  t85 := Tryz.underlying50
  a85 := Tryz.isAgg50
  z85 := Tryz.sizeOf50
  v85 := Tryz.zeroValue50
  t127 := Tryz.underlying189
  a127 := Tryz.isAgg189
  z127 := Tryz.sizeOf189
  v127 := Tryz.zeroValue189
  t143 := Tryz.underlying103
  a143 := Tryz.isAgg103
  z143 := Tryz.sizeOf103
  v143 := Tryz.zeroValue103
  t145 := Tryz.underlying105
  a145 := Tryz.isAgg105
  z145 := Tryz.sizeOf105
  v145 := Tryz.zeroValue105
  t167 := Tryz.underlying153
  a167 := Tryz.isAgg153
  z167 := Tryz.sizeOf153
  v167 := Tryz.zeroValue153
  t168 := Tryz.underlying155
  a168 := Tryz.isAgg155
  z168 := Tryz.sizeOf155
  v168 := Tryz.zeroValue155
  t171 := Tryz.underlying122
  a171 := Tryz.isAgg122
  z171 := Tryz.sizeOf122
  v171 := Tryz.zeroValue122
  t173 := Tryz.underlying124
  a173 := Tryz.isAgg124
  z173 := Tryz.sizeOf124
  v173 := Tryz.zeroValue124
  t175 := Tryz.underlying174
  a175 := Tryz.isAgg174
  z175 := Tryz.sizeOf174
  v175 := Tryz.zeroValue174
  t210 := Tryz.underlying177
  a210 := Tryz.isAgg177
  z210 := Tryz.sizeOf177
  v210 := Tryz.zeroValue177
  t212 := Tryz.underlying130
  a212 := Tryz.isAgg130
  z212 := Tryz.sizeOf130
  v212 := Tryz.zeroValue130
  t213 := Tryz.underlying131
  a213 := Tryz.isAgg131
  z213 := Tryz.sizeOf131
  t232 := Tryz.underlying143
  a232 := Tryz.isAgg143
  z232 := Tryz.sizeOf143
  v232 := Tryz.zeroValue143
  t233 := Tryz.underlying158
  a233 := Tryz.isAgg158
  z233 := Tryz.sizeOf158
  v233 := Tryz.zeroValue158
  g15 := by kernel_rfl
  g16 := by kernel_rfl
  g17 := by kernel_rfl
  g18 := by kernel_rfl
  g19 := by kernel_rfl
  t80 := Tryz.underlying190
  a80 := Tryz.isAgg190
  z80 := Tryz.sizeOf190
  v80 := Tryz.zeroValue190
  i0 := by kernel_rfl
  i2 := by kernel_rfl
  i3 := by kernel_rfl
  i4 := by kernel_rfl
  i5 := by kernel_rfl
  i9 := by kernel_rfl
  i20 := by kernel_rfl
  i21 := by kernel_rfl
  i37 := by kernel_rfl
  i46 := by kernel_rfl
  i51 := by kernel_rfl
  i53 := by kernel_rfl
  i75 := by kernel_rfl
  i76 := by kernel_rfl
  i80 := by kernel_rfl
  i85 := by kernel_rfl
  i127 := by kernel_rfl
  i143 := by kernel_rfl
  i145 := by kernel_rfl
  i167 := by kernel_rfl
  i168 := by kernel_rfl
  i171 := by kernel_rfl
  i173 := by kernel_rfl
  i175 := by kernel_rfl
  i210 := by kernel_rfl
  i212 := by kernel_rfl
  i232 := by kernel_rfl
  i233 := by kernel_rfl
  m15 := by kernel_rfl
  m16 := by kernel_rfl
  m17 := by kernel_rfl
  m18 := by kernel_rfl
  m19 := by kernel_rfl
  c0 := by kernel_rfl
  c2 := by kernel_rfl
  c3 := by kernel_rfl
  c4 := by kernel_rfl
  c5 := by kernel_rfl
  c9 := by kernel_rfl
  c20 := by kernel_rfl
  c21 := by kernel_rfl
  c37 := by kernel_rfl
  c46 := by kernel_rfl
  c51 := by kernel_rfl
  c53 := by kernel_rfl
  c75 := by kernel_rfl
  c76 := by kernel_rfl
  c80 := by kernel_rfl
  c85 := by kernel_rfl
  c127 := by kernel_rfl
  c143 := by kernel_rfl
  c145 := by kernel_rfl
  c167 := by kernel_rfl
  c168 := by kernel_rfl
  c171 := by kernel_rfl
  c173 := by kernel_rfl
  c175 := by kernel_rfl
  c210 := by kernel_rfl
  c212 := by kernel_rfl
  c213 := by kernel_rfl
  c232 := by kernel_rfl
  c233 := by kernel_rfl }
open Go.RowKit in
/-- strconv.Atoi, AT EVERY STRING THAT SPELLS AN int ('Lib.atoiAll .. = .ok v'; of whatever length: leading zeros count): v, AND NO ERROR. The world: as it was, or with the one new row that '[]byte(..)' lays. (LAID: no walk: one application.) -/
theorem Tryz.strconv_Atoi_ok (s : ByteArray) (hmax : s.size ≤ 9223372036854775806) (v : Int) (h : Lib.atoiAll s.data.toList = .ok v) (w : World) :
    Calls Tryz.prog 80 #[.string s] w fun e w' => e = .returned (.tuple #[.int .i64 v, .nilIface]) ∧ (w' = w ∨ ∃ t, w' = Lib.bytesWorld w 5 t) := Any.strconv_Atoi_ok Tryz.laysC172 s hmax v h w
def Tryz.lays264_ren : Go.Shelf.Ren := ⟨fun | 264 => 133 | n => n, fun | 53 => 22 | 46 => 120 | n => n, fun | n => n⟩
theorem Tryz.lays264 : Go.Proofs.Lays.n264 Tryz.prog Tryz.lays264_ren := {
  mixed := by kernel_rfl
  f264 := Tryz.func133.trans (congrArg some (by kernel_rfl))
  t46 := Tryz.underlying120
  a46 := Tryz.isAgg120
  z46 := Tryz.sizeOf120
  v46 := Tryz.zeroValue120
  t53 := Tryz.underlying22
  a53 := Tryz.isAgg22
  z53 := Tryz.sizeOf22
  v53 := Tryz.zeroValue22 }
open Go.RowKit Go.Lib in
theorem Tryz.bits_Mul64 (x y : Nat) (hx : x < 18446744073709551616) (hy : y < 18446744073709551616) (w : World) :
    Calls Tryz.prog 133 #[.int .u64 x, .int .u64 y] w fun e w' => e = .returned (.tuple #[.int .u64 ((x * y / 18446744073709551616 : Nat) : Int), .int .u64 ((x * y % 18446744073709551616 : Nat) : Int)]) ∧ w' = w := Any.bits_Mul64 Tryz.lays264 x y hx hy w

end Go.Proofs
