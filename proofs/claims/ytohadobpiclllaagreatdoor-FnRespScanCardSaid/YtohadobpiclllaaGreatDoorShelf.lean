/-
  DERIVED: THE SHELF's CONTRACTS AT THIS DUMP, IN PLAIN WORDS (tools/lay-plain.mjs out of 'TryzShelf.lean', which tools/lay-shelf.mjs wrote): THE SAME DECLARATIONS UNDER THE SAME NAMES: 'import', 'namespace', 'open', 'def', 'theorem' AND NOTHING ELSE: no command of the shelf's: FOR A HAND-IN. Each laying: the table of numbers ('.._ren') and one theorem, a field a fact of the dump's own or the kernel's comparison; each contract: ONE APPLICATION.
-/
import Derived.Shelf.Small.Utf8
import Derived.Shelf.Small.Bits
import Derived.Shelf.Small.Strs
import Derived.Shelf.Small.Wraps
import Derived.Shelf.Strconv.Atoi
import Derived.Shelf.Strconv.Itoa0
import Derived.Shelf.Strconv.Itoa1
import Derived.Shelf.LaysM
import Derived.Shelf.Strconv.Itoa2
import Derived.Shelf.Strconv.Itoa3
import Derived.Shelf.Strconv.Itoa4
import Derived.Shelf.Strconv.AtoiErrFast
import Derived.Shelf.Strconv.ParseIntEmpty
import Derived.Shelf.Strconv.AtoiFail
import Derived.Shelf.Strconv.Clone
import Derived.Shelf.Strconv.SyntaxError
import Derived.Shelf.LaysC
import Derived.Shelf.Strconv.ToError
import Derived.Shelf.Strconv.Lower
import Derived.Shelf.Strconv.ParseUint10
import Derived.Shelf.Strconv.ParseUint10Empty
import Derived.Shelf.Strconv.ParseUint10Any
import Derived.Shelf.Strconv.ParseInt10
import Derived.Shelf.Strconv.AtoiLong
import Derived.Shelf.Strconv.AtoiInnerAll
import Derived.Shelf.Strconv.RangeError
import Derived.Shelf.Strconv.ToErrorRange
import Derived.Shelf.Strconv.AtoiAll
import Derived.Shelf.Strconv.ErrVarAll
import Derived.Shelf.Strconv.ParseUintEmpty
import Derived.Shelf.Strconv.ParseUint10b64
import Derived.Shelf.Strconv.ParseUint10b32
import Derived.Shelf.Strconv.ParseUint10b16
import Derived.Shelf.Strconv.ParseUint10b8
import Derived.Shelf.Strconv.ParseUint10At
import Derived.Shelf.Strconv.ParseInt10At64
import Derived.Shelf.Strconv.ParseInt10At32
import Derived.Shelf.Strconv.ParseInt10At16
import Derived.Shelf.Strconv.ParseInt10At8
import Derived.Shelf.Strconv.ParseInt10All
import Derived.Shelf.Strconv.ParseIntPublic10
import Derived.Shelf.Strconv.ErrVarParseInt
import Derived.Ground.MpProg
import Derived.Shelf.Pu.ParseUintPublic10
import Derived.Shelf.Pu.ErrVarParseUint
import Derived.Shelf.Strings.Search1
import Derived.Shelf.Unicode.Decode
import Derived.Shelf.Bits.Mul64
import Derived.Shelf.Unicode.DecodeSlow
import Derived.Shelf.Unicode.DecodeAny
import Derived.Test.YtohadobpiclllaaGreatDoorProg
namespace Go.Proofs
open Go.Shelf
/-- What a text that is no numeral reads as. -/
def noInt : Lib.NumEnd Int := Lib.parseIntB 8 []
def noNat : Lib.NumEnd Nat := Lib.parseUintB 8 []
def Tryz.lays137_ren : Go.Shelf.Ren := ⟨fun | 137 => 87 | 217 => 106 | 266 => 129 | n => n, fun | 9 => 9 | 5 => 5 | 3 => 3 | n => n, fun | n => n⟩
theorem Tryz.lays137 : Go.Proofs.Lays.n137 Tryz.prog Tryz.lays137_ren := {
  mixed := by kernel_rfl
  f137 := Tryz.func87.trans (congrArg some (by kernel_rfl))
  f217 := Tryz.func106.trans (congrArg some (by kernel_rfl))
  f266 := Tryz.func129.trans (congrArg some (by kernel_rfl))
  t3 := Tryz.underlying3
  a3 := Tryz.isAgg3
  z3 := Tryz.sizeOf3
  v3 := Tryz.zeroValue3
  t5 := Tryz.underlying5
  a5 := Tryz.isAgg5
  z5 := Tryz.sizeOf5
  v5 := Tryz.zeroValue5
  t9 := Tryz.underlying9
  a9 := Tryz.isAgg9
  z9 := Tryz.sizeOf9
  v9 := Tryz.zeroValue9 }
open Go.RowKit in
/-- strings.IndexByte: "IndexByte returns the index of the first instance of c in s, or -1 if c is not present in s.": IT RETURNS 'Lib.indexByte s c'; the world is as it was. (LAID: no walk: one application.) -/
theorem Tryz.strings_IndexByte (s : ByteArray) (c : Int) (w : World) :
    Calls Tryz.prog 87 #[.string s, .int .u8 c] w fun e w' => e = .returned (.int .i64 (Lib.indexByte s.data.toList c.toNat.toUInt8)) ∧ w' = w := Any.strings_IndexByte Tryz.lays137 s c w
def Tryz.lays129_ren : Go.Shelf.Ren := ⟨fun | 129 => 101 | n => n, fun | 53 => 22 | 3 => 3 | 4 => 4 | 46 => 54 | 5 => 5 | 9 => 9 | n => n, fun | n => n⟩
theorem Tryz.lays129 : Go.Proofs.Lays.n129 Tryz.prog Tryz.lays129_ren := {
  mixed := by kernel_rfl
  f129 := Tryz.func101.trans (congrArg some (by kernel_rfl))
  t3 := Tryz.underlying3
  a3 := Tryz.isAgg3
  z3 := Tryz.sizeOf3
  v3 := Tryz.zeroValue3
  t4 := Tryz.underlying4
  a4 := Tryz.isAgg4
  z4 := Tryz.sizeOf4
  v4 := Tryz.zeroValue4
  t5 := Tryz.underlying5
  a5 := Tryz.isAgg5
  z5 := Tryz.sizeOf5
  v5 := Tryz.zeroValue5
  t9 := Tryz.underlying9
  a9 := Tryz.isAgg9
  z9 := Tryz.sizeOf9
  v9 := Tryz.zeroValue9
  t46 := Tryz.underlying54
  a46 := Tryz.isAgg54
  z46 := Tryz.sizeOf54
  v46 := Tryz.zeroValue54
  t53 := Tryz.underlying22
  a53 := Tryz.isAgg22
  z53 := Tryz.sizeOf22
  v53 := Tryz.zeroValue22 }
/-- bits.Len64: "Len64 returns the minimum number of bits required to represent x; the result is 0 for x == 0.": IT RETURNS 'Lib.bitLen x'; the world is as it was. ('h0', 'h1': x is a uint64.) (LAID: no walk: one application.) -/
theorem Tryz.bits_Len64 (x : Int) (w : World) (h0 : 0 ≤ x) (h1 : x ≤ 18446744073709551615) :
    Calls Tryz.prog 101 #[.int .u64 x] w fun e w' => e = .returned (.int .i64 (Lib.bitLen x.toNat)) ∧ w' = w := Any.bits_Len64 Tryz.lays129 x w h0 h1
def Tryz.laysC245_ren : Go.Shelf.Ren := ⟨fun | 245 => 48 | 279 => 68 | 280 => 69 | 281 => 70 | 282 => 71 | 316 => 89 | 171 => 81 | 205 => 34 | 243 => 105 | 246 => 102 | 283 => 125 | 284 => 126 | 285 => 127 | 286 => 128 | 129 => 101 | 317 => 144 | 318 => 136 | 319 => 145 | 320 => 146 | 337 => 151 | 338 => 152 | n => n, fun | 9 => 9 | 3 => 3 | 75 => 46 | 167 => 135 | 4 => 4 | 168 => 136 | 210 => 162 | 37 => 44 | 0 => 0 | 127 => 94 | 145 => 115 | 143 => 113 | 2 => 2 | 171 => 203 | 53 => 22 | 5 => 5 | 173 => 204 | 212 => 224 | 51 => 56 | 20 => 20 | 213 => 225 | 46 => 54 | 232 => 239 | 233 => 240 | 80 => 100 | n => n, fun | 15 => 1 | 16 => 2 | 17 => 9 | 18 => 13 | 19 => 14 | n => n⟩
theorem Tryz.laysC245 : Go.Proofs.LaysC.n245 Tryz.prog Tryz.laysC245_ren := {
  mixed := by kernel_rfl
  f129 := Tryz.func101.trans (congrArg some (by kernel_rfl))
  f171 := Tryz.func81.trans (congrArg some (by kernel_rfl))
  f205 := Tryz.func34.trans (congrArg some (by kernel_rfl))
  f243 := Tryz.func105.trans (congrArg some (by kernel_rfl))
  f245 := Tryz.func48.trans (congrArg some (by kernel_rfl))
  f246 := Tryz.func102.trans (congrArg some (by kernel_rfl))
  f279 := Tryz.func68.trans (congrArg some (by kernel_rfl))
  f280 := Tryz.func69.trans (congrArg some (by kernel_rfl))
  f281 := Tryz.func70.trans (congrArg some (by kernel_rfl))
  f282 := Tryz.func71.trans (congrArg some (by kernel_rfl))
  f283 := Tryz.func125.trans (congrArg some (by kernel_rfl))
  f284 := Tryz.func126.trans (congrArg some (by kernel_rfl))
  f285 := Tryz.func127.trans (congrArg some (by kernel_rfl))
  f286 := Tryz.func128.trans (congrArg some (by kernel_rfl))
  f316 := Tryz.func89.trans (congrArg some (by kernel_rfl))
  f317 := Tryz.func144.trans (congrArg some (by kernel_rfl))
  f318 := Tryz.func136.trans (congrArg some (by kernel_rfl))
  f319 := Tryz.func145.trans (congrArg some (by kernel_rfl))
  f320 := Tryz.func146.trans (congrArg some (by kernel_rfl))
  f337 := Tryz.func151.trans (congrArg some (by kernel_rfl))
  f338 := Tryz.func152.trans (congrArg some (by kernel_rfl))
  t0 := Tryz.underlying0
  a0 := Tryz.isAgg0
  z0 := Tryz.sizeOf0
  v0 := Tryz.zeroValue0
  t2 := Tryz.underlying2
  a2 := Tryz.isAgg2
  z2 := Tryz.sizeOf2
  v2 := Tryz.zeroValue2
  t3 := Tryz.underlying3
  a3 := Tryz.isAgg3
  z3 := Tryz.sizeOf3
  v3 := Tryz.zeroValue3
  t4 := Tryz.underlying4
  a4 := Tryz.isAgg4
  z4 := Tryz.sizeOf4
  v4 := Tryz.zeroValue4
  t5 := Tryz.underlying5
  a5 := Tryz.isAgg5
  z5 := Tryz.sizeOf5
  v5 := Tryz.zeroValue5
  t9 := Tryz.underlying9
  a9 := Tryz.isAgg9
  z9 := Tryz.sizeOf9
  v9 := Tryz.zeroValue9
  t20 := Tryz.underlying20
  a20 := Tryz.isAgg20
  z20 := Tryz.sizeOf20
  v20 := Tryz.zeroValue20
  t37 := Tryz.underlying44
  a37 := Tryz.isAgg44
  z37 := Tryz.sizeOf44
  v37 := Tryz.zeroValue44
  t46 := Tryz.underlying54
  a46 := Tryz.isAgg54
  z46 := Tryz.sizeOf54
  v46 := Tryz.zeroValue54
  t51 := Tryz.underlying56
  a51 := Tryz.isAgg56
  z51 := Tryz.sizeOf56
  v51 := Tryz.zeroValue56
  t53 := Tryz.underlying22
  a53 := Tryz.isAgg22
  z53 := Tryz.sizeOf22
  v53 := Tryz.zeroValue22
  t75 := Tryz.underlying46
  a75 := Tryz.isAgg46
  z75 := Tryz.sizeOf46
  v75 := Tryz.zeroValue46
  t127 := Tryz.underlying94
  a127 := Tryz.isAgg94
  z127 := Tryz.sizeOf94
  v127 := Tryz.zeroValue94
  t143 := Tryz.underlying113
  a143 := Tryz.isAgg113
  z143 := Tryz.sizeOf113
  v143 := Tryz.zeroValue113
  t145 := Tryz.underlying115
  a145 := Tryz.isAgg115
  z145 := Tryz.sizeOf115
  v145 := Tryz.zeroValue115
  t167 := Tryz.underlying135
  a167 := Tryz.isAgg135
  z167 := Tryz.sizeOf135
  v167 := Tryz.zeroValue135
  t168 := Tryz.underlying136
  a168 := Tryz.isAgg136
  z168 := Tryz.sizeOf136
  v168 := Tryz.zeroValue136
  t171 := Tryz.underlying203
  a171 := Tryz.isAgg203
  z171 := Tryz.sizeOf203
  v171 := Tryz.zeroValue203
  t173 := Tryz.underlying204
  a173 := Tryz.isAgg204
  z173 := Tryz.sizeOf204
  v173 := Tryz.zeroValue204
  t210 := Tryz.underlying162
  a210 := Tryz.isAgg162
  z210 := Tryz.sizeOf162
  v210 := Tryz.zeroValue162
  t212 := Tryz.underlying224
  a212 := Tryz.isAgg224
  z212 := Tryz.sizeOf224
  v212 := Tryz.zeroValue224
  t213 := Tryz.underlying225
  a213 := Tryz.isAgg225
  z213 := Tryz.sizeOf225
  t232 := Tryz.underlying239
  a232 := Tryz.isAgg239
  z232 := Tryz.sizeOf239
  v232 := Tryz.zeroValue239
  t233 := Tryz.underlying240
  a233 := Tryz.isAgg240
  z233 := Tryz.sizeOf240
  v233 := Tryz.zeroValue240
  g15 := by kernel_rfl
  g16 := by kernel_rfl
  g17 := by kernel_rfl
  g18 := by kernel_rfl
  g19 := by kernel_rfl
  t80 := Tryz.underlying100
  a80 := Tryz.isAgg100
  z80 := Tryz.sizeOf100
  v80 := Tryz.zeroValue100
  i0 := by kernel_rfl
  i2 := by kernel_rfl
  i3 := by kernel_rfl
  i4 := by kernel_rfl
  i5 := by kernel_rfl
  i9 := by kernel_rfl
  i20 := by kernel_rfl
  i37 := by kernel_rfl
  i46 := by kernel_rfl
  i51 := by kernel_rfl
  i53 := by kernel_rfl
  i75 := by kernel_rfl
  i80 := by kernel_rfl
  i127 := by kernel_rfl
  i143 := by kernel_rfl
  i145 := by kernel_rfl
  i167 := by kernel_rfl
  i168 := by kernel_rfl
  i171 := by kernel_rfl
  i173 := by kernel_rfl
  i210 := by kernel_rfl
  i212 := by kernel_rfl
  i232 := by kernel_rfl
  i233 := by kernel_rfl
  m15 := by kernel_rfl
  m16 := by kernel_rfl
  m17 := by kernel_rfl
  m18 := by kernel_rfl
  m19 := by kernel_rfl
  c0 := by kernel_rfl
  c2 := by kernel_rfl
  c3 := by kernel_rfl
  c4 := by kernel_rfl
  c5 := by kernel_rfl
  c9 := by kernel_rfl
  c20 := by kernel_rfl
  c37 := by kernel_rfl
  c46 := by kernel_rfl
  c51 := by kernel_rfl
  c53 := by kernel_rfl
  c75 := by kernel_rfl
  c80 := by kernel_rfl
  c127 := by kernel_rfl
  c143 := by kernel_rfl
  c145 := by kernel_rfl
  c167 := by kernel_rfl
  c168 := by kernel_rfl
  c171 := by kernel_rfl
  c173 := by kernel_rfl
  c210 := by kernel_rfl
  c212 := by kernel_rfl
  c213 := by kernel_rfl
  c232 := by kernel_rfl
  c233 := by kernel_rfl }
open Go.RowKit in
/-- strconv.toError, at the inner package's ErrSyntax: 'syntaxError(fn, s)' as an error: A *NumError IN A NEW BLOCK. (LAID: no walk: one application.) -/
theorem Tryz.strconv_toError_syntax (fn s : ByteArray) (base bits : Int) (ev : Value) (w : World) (hlim : s.size ≤ 281474976710656) (hv : w.cell? ⟨1, 0, none⟩ = some ev) (hev : ev = .nilIface ∨ ∃ te pe, ev = .iface te pe) :
    Calls Tryz.prog 48 #[.string fn, .string s, .int .i64 base, .int .i64 bits, .iface 135 (.int .i64 2)] w fun e w' => ∃ N, e = .returned (.iface 136 (.pointer (some ⟨N, 0, none⟩))) ∧ w.heap.size ≤ N ∧ w'.heap[N]? = some (.cells #[.string fn, .string s, ev] 162 (0, 0)) ∧ Below w.heap.size w w' := Any.strconv_toError_syntax Tryz.laysC245 fn s base bits ev w hlim hv hev
open Go.RowKit in
/-- strconv.toError, at the inner package's ErrRange: 'rangeError(fn, s)' as an error: A *NumError IN A NEW BLOCK. (LAID: no walk: one application.) -/
theorem Tryz.strconv_toError_range (fn s : ByteArray) (base bits : Int) (ev : Value) (w : World) (hlim : s.size ≤ 281474976710656) (hv : w.cell? ⟨2, 0, none⟩ = some ev) (hev : ev = .nilIface ∨ ∃ te pe, ev = .iface te pe) :
    Calls Tryz.prog 48 #[.string fn, .string s, .int .i64 base, .int .i64 bits, .iface 135 (.int .i64 1)] w fun e w' => ∃ N, e = .returned (.iface 136 (.pointer (some ⟨N, 0, none⟩))) ∧ w.heap.size ≤ N ∧ w'.heap[N]? = some (.cells #[.string fn, .string s, ev] 162 (0, 0)) ∧ Below w.heap.size w w' := Any.strconv_toError_range Tryz.laysC245 fn s base bits ev w hlim hv hev
def Tryz.laysC172_ren : Go.Shelf.Ren := ⟨fun | 172 => 52 | 244 => 75 | 245 => 48 | 247 => 47 | 279 => 68 | 280 => 69 | 281 => 70 | 282 => 71 | 287 => 49 | 316 => 89 | 171 => 81 | 205 => 34 | 321 => 72 | 322 => 73 | 243 => 105 | 246 => 102 | 283 => 125 | 284 => 126 | 285 => 127 | 286 => 128 | 129 => 101 | 317 => 144 | 318 => 136 | 319 => 145 | 320 => 146 | 337 => 151 | 338 => 152 | n => n, fun | 9 => 9 | 3 => 3 | 75 => 46 | 76 => 85 | 4 => 4 | 5 => 5 | 167 => 135 | 37 => 44 | 0 => 0 | 85 => 72 | 2 => 2 | 168 => 136 | 53 => 22 | 175 => 75 | 46 => 54 | 210 => 162 | 127 => 94 | 145 => 115 | 143 => 113 | 21 => 21 | 171 => 203 | 173 => 204 | 212 => 224 | 51 => 56 | 20 => 20 | 213 => 225 | 232 => 239 | 233 => 240 | 80 => 100 | n => n, fun | 15 => 1 | 16 => 2 | 17 => 9 | 18 => 13 | 19 => 14 | n => n⟩
theorem Tryz.laysC172 : Go.Proofs.LaysC.n172 Tryz.prog Tryz.laysC172_ren := {
  mixed := by kernel_rfl
  f129 := Tryz.func101.trans (congrArg some (by kernel_rfl))
  f171 := Tryz.func81.trans (congrArg some (by kernel_rfl))
  f172 := Tryz.func52.trans (congrArg some (by kernel_rfl))
  f205 := Tryz.func34.trans (congrArg some (by kernel_rfl))
  f243 := Tryz.func105.trans (congrArg some (by kernel_rfl))
  f244 := Tryz.func75.trans (congrArg some (by kernel_rfl))
  f245 := Tryz.func48.trans (congrArg some (by kernel_rfl))
  f246 := Tryz.func102.trans (congrArg some (by kernel_rfl))
  f247 := Tryz.func47.trans (congrArg some (by kernel_rfl))
  f279 := Tryz.func68.trans (congrArg some (by kernel_rfl))
  f280 := Tryz.func69.trans (congrArg some (by kernel_rfl))
  f281 := Tryz.func70.trans (congrArg some (by kernel_rfl))
  f282 := Tryz.func71.trans (congrArg some (by kernel_rfl))
  f283 := Tryz.func125.trans (congrArg some (by kernel_rfl))
  f284 := Tryz.func126.trans (congrArg some (by kernel_rfl))
  f285 := Tryz.func127.trans (congrArg some (by kernel_rfl))
  f286 := Tryz.func128.trans (congrArg some (by kernel_rfl))
  f287 := Tryz.func49.trans (congrArg some (by kernel_rfl))
  f316 := Tryz.func89.trans (congrArg some (by kernel_rfl))
  f317 := Tryz.func144.trans (congrArg some (by kernel_rfl))
  f318 := Tryz.func136.trans (congrArg some (by kernel_rfl))
  f319 := Tryz.func145.trans (congrArg some (by kernel_rfl))
  f320 := Tryz.func146.trans (congrArg some (by kernel_rfl))
  f321 := Tryz.func72.trans (congrArg some (by kernel_rfl))
  f322 := Tryz.func73.trans (congrArg some (by kernel_rfl))
  f337 := Tryz.func151.trans (congrArg some (by kernel_rfl))
  f338 := Tryz.func152.trans (congrArg some (by kernel_rfl))
  t0 := Tryz.underlying0
  a0 := Tryz.isAgg0
  z0 := Tryz.sizeOf0
  v0 := Tryz.zeroValue0
  t2 := Tryz.underlying2
  a2 := Tryz.isAgg2
  z2 := Tryz.sizeOf2
  v2 := Tryz.zeroValue2
  t3 := Tryz.underlying3
  a3 := Tryz.isAgg3
  z3 := Tryz.sizeOf3
  v3 := Tryz.zeroValue3
  t4 := Tryz.underlying4
  a4 := Tryz.isAgg4
  z4 := Tryz.sizeOf4
  v4 := Tryz.zeroValue4
  t5 := Tryz.underlying5
  a5 := Tryz.isAgg5
  z5 := Tryz.sizeOf5
  v5 := Tryz.zeroValue5
  t9 := Tryz.underlying9
  a9 := Tryz.isAgg9
  z9 := Tryz.sizeOf9
  v9 := Tryz.zeroValue9
  t20 := Tryz.underlying20
  a20 := Tryz.isAgg20
  z20 := Tryz.sizeOf20
  v20 := Tryz.zeroValue20
  t21 := Tryz.underlying21
  a21 := Tryz.isAgg21
  z21 := Tryz.sizeOf21
  v21 := Tryz.zeroValue21
  t37 := Tryz.underlying44
  a37 := Tryz.isAgg44
  z37 := Tryz.sizeOf44
  v37 := Tryz.zeroValue44
  t46 := Tryz.underlying54
  a46 := Tryz.isAgg54
  z46 := Tryz.sizeOf54
  v46 := Tryz.zeroValue54
  t51 := Tryz.underlying56
  a51 := Tryz.isAgg56
  z51 := Tryz.sizeOf56
  v51 := Tryz.zeroValue56
  t53 := Tryz.underlying22
  a53 := Tryz.isAgg22
  z53 := Tryz.sizeOf22
  v53 := Tryz.zeroValue22
  t75 := Tryz.underlying46
  a75 := Tryz.isAgg46
  z75 := Tryz.sizeOf46
  v75 := Tryz.zeroValue46
  t76 := Tryz.underlying85
  a76 := Tryz.isAgg85
  z76 := Tryz.sizeOf85
  v76 := Tryz.zeroValue85
  t85 := Tryz.underlying72
  a85 := Tryz.isAgg72
  z85 := Tryz.sizeOf72
  v85 := Tryz.zeroValue72
  t127 := Tryz.underlying94
  a127 := Tryz.isAgg94
  z127 := Tryz.sizeOf94
  v127 := Tryz.zeroValue94
  t143 := Tryz.underlying113
  a143 := Tryz.isAgg113
  z143 := Tryz.sizeOf113
  v143 := Tryz.zeroValue113
  t145 := Tryz.underlying115
  a145 := Tryz.isAgg115
  z145 := Tryz.sizeOf115
  v145 := Tryz.zeroValue115
  t167 := Tryz.underlying135
  a167 := Tryz.isAgg135
  z167 := Tryz.sizeOf135
  v167 := Tryz.zeroValue135
  t168 := Tryz.underlying136
  a168 := Tryz.isAgg136
  z168 := Tryz.sizeOf136
  v168 := Tryz.zeroValue136
  t171 := Tryz.underlying203
  a171 := Tryz.isAgg203
  z171 := Tryz.sizeOf203
  v171 := Tryz.zeroValue203
  t173 := Tryz.underlying204
  a173 := Tryz.isAgg204
  z173 := Tryz.sizeOf204
  v173 := Tryz.zeroValue204
  t175 := Tryz.underlying75
  a175 := Tryz.isAgg75
  z175 := Tryz.sizeOf75
  v175 := Tryz.zeroValue75
  t210 := Tryz.underlying162
  a210 := Tryz.isAgg162
  z210 := Tryz.sizeOf162
  v210 := Tryz.zeroValue162
  t212 := Tryz.underlying224
  a212 := Tryz.isAgg224
  z212 := Tryz.sizeOf224
  v212 := Tryz.zeroValue224
  t213 := Tryz.underlying225
  a213 := Tryz.isAgg225
  z213 := Tryz.sizeOf225
  t232 := Tryz.underlying239
  a232 := Tryz.isAgg239
  z232 := Tryz.sizeOf239
  v232 := Tryz.zeroValue239
  t233 := Tryz.underlying240
  a233 := Tryz.isAgg240
  z233 := Tryz.sizeOf240
  v233 := Tryz.zeroValue240
  g15 := by kernel_rfl
  g16 := by kernel_rfl
  g17 := by kernel_rfl
  g18 := by kernel_rfl
  g19 := by kernel_rfl
  t80 := Tryz.underlying100
  a80 := Tryz.isAgg100
  z80 := Tryz.sizeOf100
  v80 := Tryz.zeroValue100
  i0 := by kernel_rfl
  i2 := by kernel_rfl
  i3 := by kernel_rfl
  i4 := by kernel_rfl
  i5 := by kernel_rfl
  i9 := by kernel_rfl
  i20 := by kernel_rfl
  i21 := by kernel_rfl
  i37 := by kernel_rfl
  i46 := by kernel_rfl
  i51 := by kernel_rfl
  i53 := by kernel_rfl
  i75 := by kernel_rfl
  i76 := by kernel_rfl
  i80 := by kernel_rfl
  i85 := by kernel_rfl
  i127 := by kernel_rfl
  i143 := by kernel_rfl
  i145 := by kernel_rfl
  i167 := by kernel_rfl
  i168 := by kernel_rfl
  i171 := by kernel_rfl
  i173 := by kernel_rfl
  i175 := by kernel_rfl
  i210 := by kernel_rfl
  i212 := by kernel_rfl
  i232 := by kernel_rfl
  i233 := by kernel_rfl
  m15 := by kernel_rfl
  m16 := by kernel_rfl
  m17 := by kernel_rfl
  m18 := by kernel_rfl
  m19 := by kernel_rfl
  c0 := by kernel_rfl
  c2 := by kernel_rfl
  c3 := by kernel_rfl
  c4 := by kernel_rfl
  c5 := by kernel_rfl
  c9 := by kernel_rfl
  c20 := by kernel_rfl
  c21 := by kernel_rfl
  c37 := by kernel_rfl
  c46 := by kernel_rfl
  c51 := by kernel_rfl
  c53 := by kernel_rfl
  c75 := by kernel_rfl
  c76 := by kernel_rfl
  c80 := by kernel_rfl
  c85 := by kernel_rfl
  c127 := by kernel_rfl
  c143 := by kernel_rfl
  c145 := by kernel_rfl
  c167 := by kernel_rfl
  c168 := by kernel_rfl
  c171 := by kernel_rfl
  c173 := by kernel_rfl
  c175 := by kernel_rfl
  c210 := by kernel_rfl
  c212 := by kernel_rfl
  c213 := by kernel_rfl
  c232 := by kernel_rfl
  c233 := by kernel_rfl }
open Go.RowKit in
/-- strconv.Atoi, AT EVERY STRING THAT SPELLS AN int ('Lib.atoiAll .. = .ok v'; of whatever length: leading zeros count): v, AND NO ERROR. The world: as it was, or with the one new row that '[]byte(..)' lays. (LAID: no walk: one application.) -/
theorem Tryz.strconv_Atoi_ok (s : ByteArray) (hmax : s.size ≤ 9223372036854775806) (v : Int) (h : Lib.atoiAll s.data.toList = .ok v) (w : World) :
    Calls Tryz.prog 52 #[.string s] w fun e w' => e = .returned (.tuple #[.int .i64 v, .nilIface]) ∧ (w' = w ∨ ∃ t, w' = Lib.bytesWorld w 5 t) := Any.strconv_Atoi_ok Tryz.laysC172 s hmax v h w
open Go.RowKit in
/-- strconv.Atoi, AT EVERY STRING THAT IS NO DECIMAL NUMERAL ('.syntax'): 0, AND AN ERROR THAT IS NOT nil: a *NumError in a new block N: {Func: "Atoi", Num: s's bytes, Err: what the variable ErrSyntax holds}. Of what was there nothing has turned. (LAID: no walk: one application.) -/
theorem Tryz.strconv_Atoi_syntax (s : ByteArray) (hlim : s.size ≤ 281474976710656) (h : Lib.atoiAll s.data.toList = noInt) (ev : Value) (w : World) (hv : w.cell? ⟨1, 0, none⟩ = some ev) (hev : ev = .nilIface ∨ ∃ te pe, ev = .iface te pe) :
    Calls Tryz.prog 52 #[.string s] w fun e w' => ∃ N, e = .returned (.tuple #[.int .i64 (0), .iface 136 (.pointer (some ⟨N, 0, none⟩))]) ∧ w.heap.size ≤ N ∧ w'.heap[N]? = some (.cells #[.string ⟨#[65, 116, 111, 105]⟩, .string s, ev] 162 (0, 0)) ∧ Below w.heap.size w w' := Any.strconv_Atoi_syntax Tryz.laysC172 s hlim h ev w hv hev
open Go.RowKit in
/-- strconv.Atoi, AT EVERY NUMERAL THAT NO int HOLDS ('.range'): THE GREATEST OR THE LEAST int, BY THE SIGN ('Lib.atoiSat'), AND AN ERROR THAT IS NOT nil: a *NumError in a new block N: {Func: "Atoi", Num: s's bytes, Err: what the variable ErrRange holds}. Of what was there nothing has turned. (LAID: no walk: one application.) -/
theorem Tryz.strconv_Atoi_range (s : ByteArray) (hlim : s.size ≤ 281474976710656) (h : Lib.atoiAll s.data.toList = .range) (ev : Value) (w : World) (hv : w.cell? ⟨2, 0, none⟩ = some ev) (hev : ev = .nilIface ∨ ∃ te pe, ev = .iface te pe) :
    Calls Tryz.prog 52 #[.string s] w fun e w' => ∃ N, e = .returned (.tuple #[.int .i64 (Lib.atoiSat s.data.toList), .iface 136 (.pointer (some ⟨N, 0, none⟩))]) ∧ w.heap.size ≤ N ∧ w'.heap[N]? = some (.cells #[.string ⟨#[65, 116, 111, 105]⟩, .string s, ev] 162 (0, 0)) ∧ Below w.heap.size w w' := Any.strconv_Atoi_range Tryz.laysC172 s hlim h ev w hv hev
def Tryz.laysC174_ren : Go.Shelf.Ren := ⟨fun | 174 => 27 | 247 => 47 | 245 => 48 | 287 => 49 | 279 => 68 | 280 => 69 | 281 => 70 | 282 => 71 | 321 => 72 | 322 => 73 | 316 => 89 | 171 => 81 | 205 => 34 | 243 => 105 | 246 => 102 | 283 => 125 | 284 => 126 | 285 => 127 | 286 => 128 | 129 => 101 | 317 => 144 | 318 => 136 | 319 => 145 | 320 => 146 | 337 => 151 | 338 => 152 | n => n, fun | 9 => 9 | 3 => 3 | 2 => 2 | 75 => 46 | 85 => 72 | 4 => 4 | 167 => 135 | 5 => 5 | 53 => 22 | 175 => 75 | 46 => 54 | 168 => 136 | 37 => 44 | 0 => 0 | 210 => 162 | 21 => 21 | 127 => 94 | 145 => 115 | 143 => 113 | 171 => 203 | 173 => 204 | 212 => 224 | 51 => 56 | 20 => 20 | 213 => 225 | 232 => 239 | 233 => 240 | 80 => 100 | n => n, fun | 15 => 1 | 16 => 2 | 17 => 9 | 18 => 13 | 19 => 14 | n => n⟩
theorem Tryz.laysC174 : Go.Proofs.LaysC.n174 Tryz.prog Tryz.laysC174_ren := {
  mixed := by kernel_rfl
  f129 := Tryz.func101.trans (congrArg some (by kernel_rfl))
  f171 := Tryz.func81.trans (congrArg some (by kernel_rfl))
  f174 := Tryz.func27.trans (congrArg some (by kernel_rfl))
  f205 := Tryz.func34.trans (congrArg some (by kernel_rfl))
  f243 := Tryz.func105.trans (congrArg some (by kernel_rfl))
  f245 := Tryz.func48.trans (congrArg some (by kernel_rfl))
  f246 := Tryz.func102.trans (congrArg some (by kernel_rfl))
  f247 := Tryz.func47.trans (congrArg some (by kernel_rfl))
  f279 := Tryz.func68.trans (congrArg some (by kernel_rfl))
  f280 := Tryz.func69.trans (congrArg some (by kernel_rfl))
  f281 := Tryz.func70.trans (congrArg some (by kernel_rfl))
  f282 := Tryz.func71.trans (congrArg some (by kernel_rfl))
  f283 := Tryz.func125.trans (congrArg some (by kernel_rfl))
  f284 := Tryz.func126.trans (congrArg some (by kernel_rfl))
  f285 := Tryz.func127.trans (congrArg some (by kernel_rfl))
  f286 := Tryz.func128.trans (congrArg some (by kernel_rfl))
  f287 := Tryz.func49.trans (congrArg some (by kernel_rfl))
  f316 := Tryz.func89.trans (congrArg some (by kernel_rfl))
  f317 := Tryz.func144.trans (congrArg some (by kernel_rfl))
  f318 := Tryz.func136.trans (congrArg some (by kernel_rfl))
  f319 := Tryz.func145.trans (congrArg some (by kernel_rfl))
  f320 := Tryz.func146.trans (congrArg some (by kernel_rfl))
  f321 := Tryz.func72.trans (congrArg some (by kernel_rfl))
  f322 := Tryz.func73.trans (congrArg some (by kernel_rfl))
  f337 := Tryz.func151.trans (congrArg some (by kernel_rfl))
  f338 := Tryz.func152.trans (congrArg some (by kernel_rfl))
  t0 := Tryz.underlying0
  a0 := Tryz.isAgg0
  z0 := Tryz.sizeOf0
  v0 := Tryz.zeroValue0
  t2 := Tryz.underlying2
  a2 := Tryz.isAgg2
  z2 := Tryz.sizeOf2
  v2 := Tryz.zeroValue2
  t3 := Tryz.underlying3
  a3 := Tryz.isAgg3
  z3 := Tryz.sizeOf3
  v3 := Tryz.zeroValue3
  t4 := Tryz.underlying4
  a4 := Tryz.isAgg4
  z4 := Tryz.sizeOf4
  v4 := Tryz.zeroValue4
  t5 := Tryz.underlying5
  a5 := Tryz.isAgg5
  z5 := Tryz.sizeOf5
  v5 := Tryz.zeroValue5
  t9 := Tryz.underlying9
  a9 := Tryz.isAgg9
  z9 := Tryz.sizeOf9
  v9 := Tryz.zeroValue9
  t20 := Tryz.underlying20
  a20 := Tryz.isAgg20
  z20 := Tryz.sizeOf20
  v20 := Tryz.zeroValue20
  t21 := Tryz.underlying21
  a21 := Tryz.isAgg21
  z21 := Tryz.sizeOf21
  v21 := Tryz.zeroValue21
  t37 := Tryz.underlying44
  a37 := Tryz.isAgg44
  z37 := Tryz.sizeOf44
  v37 := Tryz.zeroValue44
  t46 := Tryz.underlying54
  a46 := Tryz.isAgg54
  z46 := Tryz.sizeOf54
  v46 := Tryz.zeroValue54
  t51 := Tryz.underlying56
  a51 := Tryz.isAgg56
  z51 := Tryz.sizeOf56
  v51 := Tryz.zeroValue56
  t53 := Tryz.underlying22
  a53 := Tryz.isAgg22
  z53 := Tryz.sizeOf22
  v53 := Tryz.zeroValue22
  t75 := Tryz.underlying46
  a75 := Tryz.isAgg46
  z75 := Tryz.sizeOf46
  v75 := Tryz.zeroValue46
  t85 := Tryz.underlying72
  a85 := Tryz.isAgg72
  z85 := Tryz.sizeOf72
  v85 := Tryz.zeroValue72
  t127 := Tryz.underlying94
  a127 := Tryz.isAgg94
  z127 := Tryz.sizeOf94
  v127 := Tryz.zeroValue94
  t143 := Tryz.underlying113
  a143 := Tryz.isAgg113
  z143 := Tryz.sizeOf113
  v143 := Tryz.zeroValue113
  t145 := Tryz.underlying115
  a145 := Tryz.isAgg115
  z145 := Tryz.sizeOf115
  v145 := Tryz.zeroValue115
  t167 := Tryz.underlying135
  a167 := Tryz.isAgg135
  z167 := Tryz.sizeOf135
  v167 := Tryz.zeroValue135
  t168 := Tryz.underlying136
  a168 := Tryz.isAgg136
  z168 := Tryz.sizeOf136
  v168 := Tryz.zeroValue136
  t171 := Tryz.underlying203
  a171 := Tryz.isAgg203
  z171 := Tryz.sizeOf203
  v171 := Tryz.zeroValue203
  t173 := Tryz.underlying204
  a173 := Tryz.isAgg204
  z173 := Tryz.sizeOf204
  v173 := Tryz.zeroValue204
  t175 := Tryz.underlying75
  a175 := Tryz.isAgg75
  z175 := Tryz.sizeOf75
  v175 := Tryz.zeroValue75
  t210 := Tryz.underlying162
  a210 := Tryz.isAgg162
  z210 := Tryz.sizeOf162
  v210 := Tryz.zeroValue162
  t212 := Tryz.underlying224
  a212 := Tryz.isAgg224
  z212 := Tryz.sizeOf224
  v212 := Tryz.zeroValue224
  t213 := Tryz.underlying225
  a213 := Tryz.isAgg225
  z213 := Tryz.sizeOf225
  t232 := Tryz.underlying239
  a232 := Tryz.isAgg239
  z232 := Tryz.sizeOf239
  v232 := Tryz.zeroValue239
  t233 := Tryz.underlying240
  a233 := Tryz.isAgg240
  z233 := Tryz.sizeOf240
  v233 := Tryz.zeroValue240
  g15 := by kernel_rfl
  g16 := by kernel_rfl
  g17 := by kernel_rfl
  g18 := by kernel_rfl
  g19 := by kernel_rfl
  t80 := Tryz.underlying100
  a80 := Tryz.isAgg100
  z80 := Tryz.sizeOf100
  v80 := Tryz.zeroValue100
  i0 := by kernel_rfl
  i2 := by kernel_rfl
  i3 := by kernel_rfl
  i4 := by kernel_rfl
  i5 := by kernel_rfl
  i9 := by kernel_rfl
  i20 := by kernel_rfl
  i21 := by kernel_rfl
  i37 := by kernel_rfl
  i46 := by kernel_rfl
  i51 := by kernel_rfl
  i53 := by kernel_rfl
  i75 := by kernel_rfl
  i80 := by kernel_rfl
  i85 := by kernel_rfl
  i127 := by kernel_rfl
  i143 := by kernel_rfl
  i145 := by kernel_rfl
  i167 := by kernel_rfl
  i168 := by kernel_rfl
  i171 := by kernel_rfl
  i173 := by kernel_rfl
  i175 := by kernel_rfl
  i210 := by kernel_rfl
  i212 := by kernel_rfl
  i232 := by kernel_rfl
  i233 := by kernel_rfl
  m15 := by kernel_rfl
  m16 := by kernel_rfl
  m17 := by kernel_rfl
  m18 := by kernel_rfl
  m19 := by kernel_rfl
  c0 := by kernel_rfl
  c2 := by kernel_rfl
  c3 := by kernel_rfl
  c4 := by kernel_rfl
  c5 := by kernel_rfl
  c9 := by kernel_rfl
  c20 := by kernel_rfl
  c21 := by kernel_rfl
  c37 := by kernel_rfl
  c46 := by kernel_rfl
  c51 := by kernel_rfl
  c53 := by kernel_rfl
  c75 := by kernel_rfl
  c80 := by kernel_rfl
  c85 := by kernel_rfl
  c127 := by kernel_rfl
  c143 := by kernel_rfl
  c145 := by kernel_rfl
  c167 := by kernel_rfl
  c168 := by kernel_rfl
  c171 := by kernel_rfl
  c173 := by kernel_rfl
  c175 := by kernel_rfl
  c210 := by kernel_rfl
  c212 := by kernel_rfl
  c213 := by kernel_rfl
  c232 := by kernel_rfl
  c233 := by kernel_rfl }
open Go.RowKit in
/-- strconv.ParseInt(s, 10, 64), AT EVERY STRING THAT SPELLS AN int64 ('Lib.parseIntB 64 s.data.toList = .ok v'): v, AND NO ERROR. (LAID: no walk: one application.) -/
theorem Tryz.strconv_ParseInt_10_at64_ok (s : ByteArray) (hmax : s.size ≤ 9223372036854775806) (v : Int) (h : Lib.parseIntB 64 s.data.toList = .ok v) (w : World) :
    Calls Tryz.prog 27 #[.string s, .int .i64 10, .int .i64 64] w fun e w' => e = .returned (.tuple #[.int .i64 v, .nilIface]) ∧ (w' = w ∨ ∃ t, w' = Lib.bytesWorld w 5 t) := Any.strconv_ParseInt_10_at64_ok Tryz.laysC174 s hmax v h w
open Go.RowKit in
/-- strconv.ParseInt(s, 10, 64), AT EVERY STRING THAT IS NO DECIMAL NUMERAL: 0, AND AN ERROR THAT IS NOT nil: a *NumError in a new block N: {Func: "ParseInt", Num: s's bytes, Err: what the variable ErrSyntax holds}. Of what was there nothing has turned. (LAID: no walk: one application.) -/
theorem Tryz.strconv_ParseInt_10_at64_syntax (s : ByteArray) (hlim : s.size ≤ 281474976710656) (h : Lib.parseIntB 64 s.data.toList = noInt) (ev : Value) (w : World) (hv : w.cell? ⟨1, 0, none⟩ = some ev) (hev : ev = .nilIface ∨ ∃ te pe, ev = .iface te pe) :
    Calls Tryz.prog 27 #[.string s, .int .i64 10, .int .i64 64] w fun e w' => ∃ N, e = .returned (.tuple #[.int .i64 (0), .iface 136 (.pointer (some ⟨N, 0, none⟩))]) ∧ w.heap.size ≤ N ∧ w'.heap[N]? = some (.cells #[.string ⟨#[80, 97, 114, 115, 101, 73, 110, 116]⟩, .string s, ev] 162 (0, 0)) ∧ Below w.heap.size w w' := Any.strconv_ParseInt_10_at64_syntax Tryz.laysC174 s hlim h ev w hv hev
open Go.RowKit in
/-- strconv.ParseInt(s, 10, 64), AT EVERY NUMERAL THAT NO int64 HOLDS: THE GREATEST OR THE LEAST int64, BY THE SIGN ('Lib.intSat 64'), AND AN ERROR THAT IS NOT nil: a *NumError in a new block N: {Func: "ParseInt", Num: s's bytes, Err: what the variable ErrRange holds}. Of what was there nothing has turned. (LAID: no walk: one application.) -/
theorem Tryz.strconv_ParseInt_10_at64_range (s : ByteArray) (hlim : s.size ≤ 281474976710656) (h : Lib.parseIntB 64 s.data.toList = .range) (ev : Value) (w : World) (hv : w.cell? ⟨2, 0, none⟩ = some ev) (hev : ev = .nilIface ∨ ∃ te pe, ev = .iface te pe) :
    Calls Tryz.prog 27 #[.string s, .int .i64 10, .int .i64 64] w fun e w' => ∃ N, e = .returned (.tuple #[.int .i64 (Lib.intSat 64 s.data.toList), .iface 136 (.pointer (some ⟨N, 0, none⟩))]) ∧ w.heap.size ≤ N ∧ w'.heap[N]? = some (.cells #[.string ⟨#[80, 97, 114, 115, 101, 73, 110, 116]⟩, .string s, ev] 162 (0, 0)) ∧ Below w.heap.size w w' := Any.strconv_ParseInt_10_at64_range Tryz.laysC174 s hlim h ev w hv hev
open Go.RowKit in
/-- strconv.ParseInt(s, 10, 32), AT EVERY STRING THAT SPELLS AN int32 ('Lib.parseIntB 32 s.data.toList = .ok v'): v, AND NO ERROR. (LAID: no walk: one application.) -/
theorem Tryz.strconv_ParseInt_10_at32_ok (s : ByteArray) (hmax : s.size ≤ 9223372036854775806) (v : Int) (h : Lib.parseIntB 32 s.data.toList = .ok v) (w : World) :
    Calls Tryz.prog 27 #[.string s, .int .i64 10, .int .i64 32] w fun e w' => e = .returned (.tuple #[.int .i64 v, .nilIface]) ∧ (w' = w ∨ ∃ t, w' = Lib.bytesWorld w 5 t) := Any.strconv_ParseInt_10_at32_ok Tryz.laysC174 s hmax v h w
open Go.RowKit in
/-- strconv.ParseInt(s, 10, 32), AT EVERY STRING THAT IS NO DECIMAL NUMERAL: 0, AND AN ERROR THAT IS NOT nil: a *NumError in a new block N: {Func: "ParseInt", Num: s's bytes, Err: what the variable ErrSyntax holds}. Of what was there nothing has turned. (LAID: no walk: one application.) -/
theorem Tryz.strconv_ParseInt_10_at32_syntax (s : ByteArray) (hlim : s.size ≤ 281474976710656) (h : Lib.parseIntB 32 s.data.toList = noInt) (ev : Value) (w : World) (hv : w.cell? ⟨1, 0, none⟩ = some ev) (hev : ev = .nilIface ∨ ∃ te pe, ev = .iface te pe) :
    Calls Tryz.prog 27 #[.string s, .int .i64 10, .int .i64 32] w fun e w' => ∃ N, e = .returned (.tuple #[.int .i64 (0), .iface 136 (.pointer (some ⟨N, 0, none⟩))]) ∧ w.heap.size ≤ N ∧ w'.heap[N]? = some (.cells #[.string ⟨#[80, 97, 114, 115, 101, 73, 110, 116]⟩, .string s, ev] 162 (0, 0)) ∧ Below w.heap.size w w' := Any.strconv_ParseInt_10_at32_syntax Tryz.laysC174 s hlim h ev w hv hev
open Go.RowKit in
/-- strconv.ParseInt(s, 10, 32), AT EVERY NUMERAL THAT NO int32 HOLDS: THE GREATEST OR THE LEAST int32, BY THE SIGN ('Lib.intSat 32'), AND AN ERROR THAT IS NOT nil: a *NumError in a new block N: {Func: "ParseInt", Num: s's bytes, Err: what the variable ErrRange holds}. Of what was there nothing has turned. (LAID: no walk: one application.) -/
theorem Tryz.strconv_ParseInt_10_at32_range (s : ByteArray) (hlim : s.size ≤ 281474976710656) (h : Lib.parseIntB 32 s.data.toList = .range) (ev : Value) (w : World) (hv : w.cell? ⟨2, 0, none⟩ = some ev) (hev : ev = .nilIface ∨ ∃ te pe, ev = .iface te pe) :
    Calls Tryz.prog 27 #[.string s, .int .i64 10, .int .i64 32] w fun e w' => ∃ N, e = .returned (.tuple #[.int .i64 (Lib.intSat 32 s.data.toList), .iface 136 (.pointer (some ⟨N, 0, none⟩))]) ∧ w.heap.size ≤ N ∧ w'.heap[N]? = some (.cells #[.string ⟨#[80, 97, 114, 115, 101, 73, 110, 116]⟩, .string s, ev] 162 (0, 0)) ∧ Below w.heap.size w w' := Any.strconv_ParseInt_10_at32_range Tryz.laysC174 s hlim h ev w hv hev
open Go.RowKit in
/-- strconv.ParseInt(s, 10, 16), AT EVERY STRING THAT SPELLS AN int16 ('Lib.parseIntB 16 s.data.toList = .ok v'): v, AND NO ERROR. (LAID: no walk: one application.) -/
theorem Tryz.strconv_ParseInt_10_at16_ok (s : ByteArray) (hmax : s.size ≤ 9223372036854775806) (v : Int) (h : Lib.parseIntB 16 s.data.toList = .ok v) (w : World) :
    Calls Tryz.prog 27 #[.string s, .int .i64 10, .int .i64 16] w fun e w' => e = .returned (.tuple #[.int .i64 v, .nilIface]) ∧ (w' = w ∨ ∃ t, w' = Lib.bytesWorld w 5 t) := Any.strconv_ParseInt_10_at16_ok Tryz.laysC174 s hmax v h w
open Go.RowKit in
/-- strconv.ParseInt(s, 10, 16), AT EVERY STRING THAT IS NO DECIMAL NUMERAL: 0, AND AN ERROR THAT IS NOT nil: a *NumError in a new block N: {Func: "ParseInt", Num: s's bytes, Err: what the variable ErrSyntax holds}. Of what was there nothing has turned. (LAID: no walk: one application.) -/
theorem Tryz.strconv_ParseInt_10_at16_syntax (s : ByteArray) (hlim : s.size ≤ 281474976710656) (h : Lib.parseIntB 16 s.data.toList = noInt) (ev : Value) (w : World) (hv : w.cell? ⟨1, 0, none⟩ = some ev) (hev : ev = .nilIface ∨ ∃ te pe, ev = .iface te pe) :
    Calls Tryz.prog 27 #[.string s, .int .i64 10, .int .i64 16] w fun e w' => ∃ N, e = .returned (.tuple #[.int .i64 (0), .iface 136 (.pointer (some ⟨N, 0, none⟩))]) ∧ w.heap.size ≤ N ∧ w'.heap[N]? = some (.cells #[.string ⟨#[80, 97, 114, 115, 101, 73, 110, 116]⟩, .string s, ev] 162 (0, 0)) ∧ Below w.heap.size w w' := Any.strconv_ParseInt_10_at16_syntax Tryz.laysC174 s hlim h ev w hv hev
open Go.RowKit in
/-- strconv.ParseInt(s, 10, 16), AT EVERY NUMERAL THAT NO int16 HOLDS: THE GREATEST OR THE LEAST int16, BY THE SIGN ('Lib.intSat 16'), AND AN ERROR THAT IS NOT nil: a *NumError in a new block N: {Func: "ParseInt", Num: s's bytes, Err: what the variable ErrRange holds}. Of what was there nothing has turned. (LAID: no walk: one application.) -/
theorem Tryz.strconv_ParseInt_10_at16_range (s : ByteArray) (hlim : s.size ≤ 281474976710656) (h : Lib.parseIntB 16 s.data.toList = .range) (ev : Value) (w : World) (hv : w.cell? ⟨2, 0, none⟩ = some ev) (hev : ev = .nilIface ∨ ∃ te pe, ev = .iface te pe) :
    Calls Tryz.prog 27 #[.string s, .int .i64 10, .int .i64 16] w fun e w' => ∃ N, e = .returned (.tuple #[.int .i64 (Lib.intSat 16 s.data.toList), .iface 136 (.pointer (some ⟨N, 0, none⟩))]) ∧ w.heap.size ≤ N ∧ w'.heap[N]? = some (.cells #[.string ⟨#[80, 97, 114, 115, 101, 73, 110, 116]⟩, .string s, ev] 162 (0, 0)) ∧ Below w.heap.size w w' := Any.strconv_ParseInt_10_at16_range Tryz.laysC174 s hlim h ev w hv hev
open Go.RowKit in
/-- strconv.ParseInt(s, 10, 8), AT EVERY STRING THAT SPELLS AN int8 ('Lib.parseIntB 8 s.data.toList = .ok v'): v, AND NO ERROR. (LAID: no walk: one application.) -/
theorem Tryz.strconv_ParseInt_10_at8_ok (s : ByteArray) (hmax : s.size ≤ 9223372036854775806) (v : Int) (h : Lib.parseIntB 8 s.data.toList = .ok v) (w : World) :
    Calls Tryz.prog 27 #[.string s, .int .i64 10, .int .i64 8] w fun e w' => e = .returned (.tuple #[.int .i64 v, .nilIface]) ∧ (w' = w ∨ ∃ t, w' = Lib.bytesWorld w 5 t) := Any.strconv_ParseInt_10_at8_ok Tryz.laysC174 s hmax v h w
open Go.RowKit in
/-- strconv.ParseInt(s, 10, 8), AT EVERY STRING THAT IS NO DECIMAL NUMERAL: 0, AND AN ERROR THAT IS NOT nil: a *NumError in a new block N: {Func: "ParseInt", Num: s's bytes, Err: what the variable ErrSyntax holds}. Of what was there nothing has turned. (LAID: no walk: one application.) -/
theorem Tryz.strconv_ParseInt_10_at8_syntax (s : ByteArray) (hlim : s.size ≤ 281474976710656) (h : Lib.parseIntB 8 s.data.toList = noInt) (ev : Value) (w : World) (hv : w.cell? ⟨1, 0, none⟩ = some ev) (hev : ev = .nilIface ∨ ∃ te pe, ev = .iface te pe) :
    Calls Tryz.prog 27 #[.string s, .int .i64 10, .int .i64 8] w fun e w' => ∃ N, e = .returned (.tuple #[.int .i64 (0), .iface 136 (.pointer (some ⟨N, 0, none⟩))]) ∧ w.heap.size ≤ N ∧ w'.heap[N]? = some (.cells #[.string ⟨#[80, 97, 114, 115, 101, 73, 110, 116]⟩, .string s, ev] 162 (0, 0)) ∧ Below w.heap.size w w' := Any.strconv_ParseInt_10_at8_syntax Tryz.laysC174 s hlim h ev w hv hev
open Go.RowKit in
/-- strconv.ParseInt(s, 10, 8), AT EVERY NUMERAL THAT NO int8 HOLDS: THE GREATEST OR THE LEAST int8, BY THE SIGN ('Lib.intSat 8'), AND AN ERROR THAT IS NOT nil: a *NumError in a new block N: {Func: "ParseInt", Num: s's bytes, Err: what the variable ErrRange holds}. Of what was there nothing has turned. (LAID: no walk: one application.) -/
theorem Tryz.strconv_ParseInt_10_at8_range (s : ByteArray) (hlim : s.size ≤ 281474976710656) (h : Lib.parseIntB 8 s.data.toList = .range) (ev : Value) (w : World) (hv : w.cell? ⟨2, 0, none⟩ = some ev) (hev : ev = .nilIface ∨ ∃ te pe, ev = .iface te pe) :
    Calls Tryz.prog 27 #[.string s, .int .i64 10, .int .i64 8] w fun e w' => ∃ N, e = .returned (.tuple #[.int .i64 (Lib.intSat 8 s.data.toList), .iface 136 (.pointer (some ⟨N, 0, none⟩))]) ∧ w.heap.size ≤ N ∧ w'.heap[N]? = some (.cells #[.string ⟨#[80, 97, 114, 115, 101, 73, 110, 116]⟩, .string s, ev] 162 (0, 0)) ∧ Below w.heap.size w w' := Any.strconv_ParseInt_10_at8_range Tryz.laysC174 s hlim h ev w hv hev
def Tryz.laysPu14_ren : Go.Shelf.Ren := ⟨fun | 14 => 29 | 16 => 49 | 17 => 48 | 19 => 72 | 20 => 73 | 21 => 68 | 22 => 69 | 23 => 70 | 24 => 71 | 25 => 89 | 27 => 81 | 26 => 34 | 28 => 105 | 29 => 102 | 30 => 125 | 31 => 126 | 32 => 127 | 33 => 128 | 35 => 101 | 34 => 144 | 36 => 136 | 37 => 145 | 38 => 146 | 39 => 151 | 40 => 152 | n => n, fun | 9 => 9 | 3 => 3 | 22 => 22 | 24 => 46 | 25 => 75 | 4 => 4 | 34 => 135 | 5 => 5 | 36 => 54 | 37 => 44 | 0 => 0 | 39 => 136 | 21 => 21 | 44 => 162 | 47 => 94 | 50 => 115 | 48 => 113 | 2 => 2 | 52 => 203 | 55 => 204 | 59 => 224 | 60 => 56 | 20 => 20 | 61 => 225 | 65 => 239 | 66 => 240 | 67 => 100 | n => n, fun | 0 => 1 | 1 => 2 | 2 => 9 | 3 => 13 | 4 => 14 | n => n⟩
theorem Tryz.laysPu14 : Go.Proofs.LaysPu.n14 Tryz.prog Tryz.laysPu14_ren := {
  mixed := by kernel_rfl
  f14 := Tryz.func29.trans (congrArg some (by kernel_rfl))
  f16 := Tryz.func49.trans (congrArg some (by kernel_rfl))
  f17 := Tryz.func48.trans (congrArg some (by kernel_rfl))
  f19 := Tryz.func72.trans (congrArg some (by kernel_rfl))
  f20 := Tryz.func73.trans (congrArg some (by kernel_rfl))
  f21 := Tryz.func68.trans (congrArg some (by kernel_rfl))
  f22 := Tryz.func69.trans (congrArg some (by kernel_rfl))
  f23 := Tryz.func70.trans (congrArg some (by kernel_rfl))
  f24 := Tryz.func71.trans (congrArg some (by kernel_rfl))
  f25 := Tryz.func89.trans (congrArg some (by kernel_rfl))
  f26 := Tryz.func34.trans (congrArg some (by kernel_rfl))
  f27 := Tryz.func81.trans (congrArg some (by kernel_rfl))
  f28 := Tryz.func105.trans (congrArg some (by kernel_rfl))
  f29 := Tryz.func102.trans (congrArg some (by kernel_rfl))
  f30 := Tryz.func125.trans (congrArg some (by kernel_rfl))
  f31 := Tryz.func126.trans (congrArg some (by kernel_rfl))
  f32 := Tryz.func127.trans (congrArg some (by kernel_rfl))
  f33 := Tryz.func128.trans (congrArg some (by kernel_rfl))
  f34 := Tryz.func144.trans (congrArg some (by kernel_rfl))
  f35 := Tryz.func101.trans (congrArg some (by kernel_rfl))
  f36 := Tryz.func136.trans (congrArg some (by kernel_rfl))
  f37 := Tryz.func145.trans (congrArg some (by kernel_rfl))
  f38 := Tryz.func146.trans (congrArg some (by kernel_rfl))
  f39 := Tryz.func151.trans (congrArg some (by kernel_rfl))
  f40 := Tryz.func152.trans (congrArg some (by kernel_rfl))
  t0 := Tryz.underlying0
  a0 := Tryz.isAgg0
  z0 := Tryz.sizeOf0
  v0 := Tryz.zeroValue0
  i0 := by kernel_rfl
  t2 := Tryz.underlying2
  a2 := Tryz.isAgg2
  z2 := Tryz.sizeOf2
  v2 := Tryz.zeroValue2
  i2 := by kernel_rfl
  t3 := Tryz.underlying3
  a3 := Tryz.isAgg3
  z3 := Tryz.sizeOf3
  v3 := Tryz.zeroValue3
  i3 := by kernel_rfl
  t4 := Tryz.underlying4
  a4 := Tryz.isAgg4
  z4 := Tryz.sizeOf4
  v4 := Tryz.zeroValue4
  i4 := by kernel_rfl
  t5 := Tryz.underlying5
  a5 := Tryz.isAgg5
  z5 := Tryz.sizeOf5
  v5 := Tryz.zeroValue5
  i5 := by kernel_rfl
  t9 := Tryz.underlying9
  a9 := Tryz.isAgg9
  z9 := Tryz.sizeOf9
  v9 := Tryz.zeroValue9
  i9 := by kernel_rfl
  t20 := Tryz.underlying20
  a20 := Tryz.isAgg20
  z20 := Tryz.sizeOf20
  v20 := Tryz.zeroValue20
  i20 := by kernel_rfl
  t21 := Tryz.underlying21
  a21 := Tryz.isAgg21
  z21 := Tryz.sizeOf21
  v21 := Tryz.zeroValue21
  i21 := by kernel_rfl
  t22 := Tryz.underlying22
  a22 := Tryz.isAgg22
  z22 := Tryz.sizeOf22
  v22 := Tryz.zeroValue22
  i22 := by kernel_rfl
  t24 := Tryz.underlying46
  a24 := Tryz.isAgg46
  z24 := Tryz.sizeOf46
  v24 := Tryz.zeroValue46
  i24 := by kernel_rfl
  t25 := Tryz.underlying75
  a25 := Tryz.isAgg75
  z25 := Tryz.sizeOf75
  v25 := Tryz.zeroValue75
  i25 := by kernel_rfl
  t34 := Tryz.underlying135
  a34 := Tryz.isAgg135
  z34 := Tryz.sizeOf135
  v34 := Tryz.zeroValue135
  i34 := by kernel_rfl
  c34 := by kernel_rfl
  t36 := Tryz.underlying54
  a36 := Tryz.isAgg54
  z36 := Tryz.sizeOf54
  v36 := Tryz.zeroValue54
  i36 := by kernel_rfl
  t37 := Tryz.underlying44
  a37 := Tryz.isAgg44
  z37 := Tryz.sizeOf44
  v37 := Tryz.zeroValue44
  i37 := by kernel_rfl
  t39 := Tryz.underlying136
  a39 := Tryz.isAgg136
  z39 := Tryz.sizeOf136
  v39 := Tryz.zeroValue136
  i39 := by kernel_rfl
  t44 := Tryz.underlying162
  a44 := Tryz.isAgg162
  z44 := Tryz.sizeOf162
  v44 := Tryz.zeroValue162
  i44 := by kernel_rfl
  t47 := Tryz.underlying94
  a47 := Tryz.isAgg94
  z47 := Tryz.sizeOf94
  v47 := Tryz.zeroValue94
  i47 := by kernel_rfl
  t48 := Tryz.underlying113
  a48 := Tryz.isAgg113
  z48 := Tryz.sizeOf113
  v48 := Tryz.zeroValue113
  i48 := by kernel_rfl
  t50 := Tryz.underlying115
  a50 := Tryz.isAgg115
  z50 := Tryz.sizeOf115
  v50 := Tryz.zeroValue115
  i50 := by kernel_rfl
  t52 := Tryz.underlying203
  a52 := Tryz.isAgg203
  z52 := Tryz.sizeOf203
  v52 := Tryz.zeroValue203
  i52 := by kernel_rfl
  t55 := Tryz.underlying204
  a55 := Tryz.isAgg204
  z55 := Tryz.sizeOf204
  v55 := Tryz.zeroValue204
  i55 := by kernel_rfl
  t59 := Tryz.underlying224
  a59 := Tryz.isAgg224
  z59 := Tryz.sizeOf224
  v59 := Tryz.zeroValue224
  i59 := by kernel_rfl
  t60 := Tryz.underlying56
  a60 := Tryz.isAgg56
  z60 := Tryz.sizeOf56
  v60 := Tryz.zeroValue56
  i60 := by kernel_rfl
  t61 := Tryz.underlying225
  a61 := Tryz.isAgg225
  z61 := Tryz.sizeOf225
  t65 := Tryz.underlying239
  a65 := Tryz.isAgg239
  z65 := Tryz.sizeOf239
  v65 := Tryz.zeroValue239
  i65 := by kernel_rfl
  t66 := Tryz.underlying240
  a66 := Tryz.isAgg240
  z66 := Tryz.sizeOf240
  v66 := Tryz.zeroValue240
  i66 := by kernel_rfl
  t67 := Tryz.underlying100
  a67 := Tryz.isAgg100
  z67 := Tryz.sizeOf100
  v67 := Tryz.zeroValue100
  i67 := by kernel_rfl
  g0 := by kernel_rfl
  m0 := by kernel_rfl
  g1 := by kernel_rfl
  m1 := by kernel_rfl
  g2 := by kernel_rfl
  m2 := by kernel_rfl
  g3 := by kernel_rfl
  m3 := by kernel_rfl
  g4 := by kernel_rfl
  m4 := by kernel_rfl }
open Go.RowKit in
/-- strconv.ParseUint(s, 10, 64), AT EVERY STRING THAT SPELLS A uint64 ('Lib.parseUintB 64 s.data.toList = .ok u'): u, AND NO ERROR. (LAID: no walk: one application.) -/
theorem Tryz.strconv_ParseUint_10_at64_ok (s : ByteArray) (hmax : s.size ≤ 9223372036854775806) (u : Nat) (h : Lib.parseUintB 64 s.data.toList = .ok u) (w : World) :
    Calls Tryz.prog 29 #[.string s, .int .i64 10, .int .i64 64] w fun e w' => e = .returned (.tuple #[.int .u64 u, .nilIface]) ∧ (w' = w ∨ w' = Lib.bytesWorld w 5 s) := Any.strconv_ParseUint_10_at64_ok Tryz.laysPu14 s hmax u h w
open Go.RowKit in
/-- strconv.ParseUint(s, 10, 64), AT EVERY STRING THAT IS NO ROW OF DECIMAL DIGITS (a sign is a fault): 0, AND AN ERROR THAT IS NOT nil: a *NumError in a new block N: {Func: "ParseUint", Num: s's bytes, Err: what the variable ErrSyntax holds}. Of what was there nothing has turned. (LAID: no walk: one application.) -/
theorem Tryz.strconv_ParseUint_10_at64_syntax (s : ByteArray) (hlim : s.size ≤ 281474976710656) (h : Lib.parseUintB 64 s.data.toList = noNat) (ev : Value) (w : World) (hv : w.cell? ⟨1, 0, none⟩ = some ev) (hev : ev = .nilIface ∨ ∃ te pe, ev = .iface te pe) :
    Calls Tryz.prog 29 #[.string s, .int .i64 10, .int .i64 64] w fun e w' => ∃ N, e = .returned (.tuple #[.int .u64 0, .iface 136 (.pointer (some ⟨N, 0, none⟩))]) ∧ w.heap.size ≤ N ∧ w'.heap[N]? = some (.cells #[.string ⟨#[80, 97, 114, 115, 101, 85, 105, 110, 116]⟩, .string s, ev] 162 (0, 0)) ∧ Below w.heap.size w w' := Any.strconv_ParseUint_10_at64_syntax Tryz.laysPu14 s hlim h ev w hv hev
open Go.RowKit in
/-- strconv.ParseUint(s, 10, 64), AT EVERY NUMERAL THAT NO uint64 HOLDS: THE GREATEST uint64, AND AN ERROR THAT IS NOT nil: a *NumError in a new block N: {Func: "ParseUint", Num: s's bytes, Err: what the variable ErrRange holds}. Of what was there nothing has turned. (LAID: no walk: one application.) -/
theorem Tryz.strconv_ParseUint_10_at64_range (s : ByteArray) (hlim : s.size ≤ 281474976710656) (h : Lib.parseUintB 64 s.data.toList = .range) (ev : Value) (w : World) (hv : w.cell? ⟨2, 0, none⟩ = some ev) (hev : ev = .nilIface ∨ ∃ te pe, ev = .iface te pe) :
    Calls Tryz.prog 29 #[.string s, .int .i64 10, .int .i64 64] w fun e w' => ∃ N, e = .returned (.tuple #[.int .u64 18446744073709551615, .iface 136 (.pointer (some ⟨N, 0, none⟩))]) ∧ w.heap.size ≤ N ∧ w'.heap[N]? = some (.cells #[.string ⟨#[80, 97, 114, 115, 101, 85, 105, 110, 116]⟩, .string s, ev] 162 (0, 0)) ∧ Below w.heap.size w w' := Any.strconv_ParseUint_10_at64_range Tryz.laysPu14 s hlim h ev w hv hev
open Go.RowKit in
/-- strconv.ParseUint(s, 10, 32), AT EVERY STRING THAT SPELLS A uint32 ('Lib.parseUintB 32 s.data.toList = .ok u'): u, AND NO ERROR. (LAID: no walk: one application.) -/
theorem Tryz.strconv_ParseUint_10_at32_ok (s : ByteArray) (hmax : s.size ≤ 9223372036854775806) (u : Nat) (h : Lib.parseUintB 32 s.data.toList = .ok u) (w : World) :
    Calls Tryz.prog 29 #[.string s, .int .i64 10, .int .i64 32] w fun e w' => e = .returned (.tuple #[.int .u64 u, .nilIface]) ∧ (w' = w ∨ w' = Lib.bytesWorld w 5 s) := Any.strconv_ParseUint_10_at32_ok Tryz.laysPu14 s hmax u h w
open Go.RowKit in
/-- strconv.ParseUint(s, 10, 32), AT EVERY STRING THAT IS NO ROW OF DECIMAL DIGITS (a sign is a fault): 0, AND AN ERROR THAT IS NOT nil: a *NumError in a new block N: {Func: "ParseUint", Num: s's bytes, Err: what the variable ErrSyntax holds}. Of what was there nothing has turned. (LAID: no walk: one application.) -/
theorem Tryz.strconv_ParseUint_10_at32_syntax (s : ByteArray) (hlim : s.size ≤ 281474976710656) (h : Lib.parseUintB 32 s.data.toList = noNat) (ev : Value) (w : World) (hv : w.cell? ⟨1, 0, none⟩ = some ev) (hev : ev = .nilIface ∨ ∃ te pe, ev = .iface te pe) :
    Calls Tryz.prog 29 #[.string s, .int .i64 10, .int .i64 32] w fun e w' => ∃ N, e = .returned (.tuple #[.int .u64 0, .iface 136 (.pointer (some ⟨N, 0, none⟩))]) ∧ w.heap.size ≤ N ∧ w'.heap[N]? = some (.cells #[.string ⟨#[80, 97, 114, 115, 101, 85, 105, 110, 116]⟩, .string s, ev] 162 (0, 0)) ∧ Below w.heap.size w w' := Any.strconv_ParseUint_10_at32_syntax Tryz.laysPu14 s hlim h ev w hv hev
open Go.RowKit in
/-- strconv.ParseUint(s, 10, 32), AT EVERY NUMERAL THAT NO uint32 HOLDS: THE GREATEST uint32, AND AN ERROR THAT IS NOT nil: a *NumError in a new block N: {Func: "ParseUint", Num: s's bytes, Err: what the variable ErrRange holds}. Of what was there nothing has turned. (LAID: no walk: one application.) -/
theorem Tryz.strconv_ParseUint_10_at32_range (s : ByteArray) (hlim : s.size ≤ 281474976710656) (h : Lib.parseUintB 32 s.data.toList = .range) (ev : Value) (w : World) (hv : w.cell? ⟨2, 0, none⟩ = some ev) (hev : ev = .nilIface ∨ ∃ te pe, ev = .iface te pe) :
    Calls Tryz.prog 29 #[.string s, .int .i64 10, .int .i64 32] w fun e w' => ∃ N, e = .returned (.tuple #[.int .u64 4294967295, .iface 136 (.pointer (some ⟨N, 0, none⟩))]) ∧ w.heap.size ≤ N ∧ w'.heap[N]? = some (.cells #[.string ⟨#[80, 97, 114, 115, 101, 85, 105, 110, 116]⟩, .string s, ev] 162 (0, 0)) ∧ Below w.heap.size w w' := Any.strconv_ParseUint_10_at32_range Tryz.laysPu14 s hlim h ev w hv hev
open Go.RowKit in
/-- strconv.ParseUint(s, 10, 16), AT EVERY STRING THAT SPELLS A uint16 ('Lib.parseUintB 16 s.data.toList = .ok u'): u, AND NO ERROR. (LAID: no walk: one application.) -/
theorem Tryz.strconv_ParseUint_10_at16_ok (s : ByteArray) (hmax : s.size ≤ 9223372036854775806) (u : Nat) (h : Lib.parseUintB 16 s.data.toList = .ok u) (w : World) :
    Calls Tryz.prog 29 #[.string s, .int .i64 10, .int .i64 16] w fun e w' => e = .returned (.tuple #[.int .u64 u, .nilIface]) ∧ (w' = w ∨ w' = Lib.bytesWorld w 5 s) := Any.strconv_ParseUint_10_at16_ok Tryz.laysPu14 s hmax u h w
open Go.RowKit in
/-- strconv.ParseUint(s, 10, 16), AT EVERY STRING THAT IS NO ROW OF DECIMAL DIGITS (a sign is a fault): 0, AND AN ERROR THAT IS NOT nil: a *NumError in a new block N: {Func: "ParseUint", Num: s's bytes, Err: what the variable ErrSyntax holds}. Of what was there nothing has turned. (LAID: no walk: one application.) -/
theorem Tryz.strconv_ParseUint_10_at16_syntax (s : ByteArray) (hlim : s.size ≤ 281474976710656) (h : Lib.parseUintB 16 s.data.toList = noNat) (ev : Value) (w : World) (hv : w.cell? ⟨1, 0, none⟩ = some ev) (hev : ev = .nilIface ∨ ∃ te pe, ev = .iface te pe) :
    Calls Tryz.prog 29 #[.string s, .int .i64 10, .int .i64 16] w fun e w' => ∃ N, e = .returned (.tuple #[.int .u64 0, .iface 136 (.pointer (some ⟨N, 0, none⟩))]) ∧ w.heap.size ≤ N ∧ w'.heap[N]? = some (.cells #[.string ⟨#[80, 97, 114, 115, 101, 85, 105, 110, 116]⟩, .string s, ev] 162 (0, 0)) ∧ Below w.heap.size w w' := Any.strconv_ParseUint_10_at16_syntax Tryz.laysPu14 s hlim h ev w hv hev
open Go.RowKit in
/-- strconv.ParseUint(s, 10, 16), AT EVERY NUMERAL THAT NO uint16 HOLDS: THE GREATEST uint16, AND AN ERROR THAT IS NOT nil: a *NumError in a new block N: {Func: "ParseUint", Num: s's bytes, Err: what the variable ErrRange holds}. Of what was there nothing has turned. (LAID: no walk: one application.) -/
theorem Tryz.strconv_ParseUint_10_at16_range (s : ByteArray) (hlim : s.size ≤ 281474976710656) (h : Lib.parseUintB 16 s.data.toList = .range) (ev : Value) (w : World) (hv : w.cell? ⟨2, 0, none⟩ = some ev) (hev : ev = .nilIface ∨ ∃ te pe, ev = .iface te pe) :
    Calls Tryz.prog 29 #[.string s, .int .i64 10, .int .i64 16] w fun e w' => ∃ N, e = .returned (.tuple #[.int .u64 65535, .iface 136 (.pointer (some ⟨N, 0, none⟩))]) ∧ w.heap.size ≤ N ∧ w'.heap[N]? = some (.cells #[.string ⟨#[80, 97, 114, 115, 101, 85, 105, 110, 116]⟩, .string s, ev] 162 (0, 0)) ∧ Below w.heap.size w w' := Any.strconv_ParseUint_10_at16_range Tryz.laysPu14 s hlim h ev w hv hev
open Go.RowKit in
/-- strconv.ParseUint(s, 10, 8), AT EVERY STRING THAT SPELLS A uint8 ('Lib.parseUintB 8 s.data.toList = .ok u'): u, AND NO ERROR. (LAID: no walk: one application.) -/
theorem Tryz.strconv_ParseUint_10_at8_ok (s : ByteArray) (hmax : s.size ≤ 9223372036854775806) (u : Nat) (h : Lib.parseUintB 8 s.data.toList = .ok u) (w : World) :
    Calls Tryz.prog 29 #[.string s, .int .i64 10, .int .i64 8] w fun e w' => e = .returned (.tuple #[.int .u64 u, .nilIface]) ∧ (w' = w ∨ w' = Lib.bytesWorld w 5 s) := Any.strconv_ParseUint_10_at8_ok Tryz.laysPu14 s hmax u h w
open Go.RowKit in
/-- strconv.ParseUint(s, 10, 8), AT EVERY STRING THAT IS NO ROW OF DECIMAL DIGITS (a sign is a fault): 0, AND AN ERROR THAT IS NOT nil: a *NumError in a new block N: {Func: "ParseUint", Num: s's bytes, Err: what the variable ErrSyntax holds}. Of what was there nothing has turned. (LAID: no walk: one application.) -/
theorem Tryz.strconv_ParseUint_10_at8_syntax (s : ByteArray) (hlim : s.size ≤ 281474976710656) (h : Lib.parseUintB 8 s.data.toList = noNat) (ev : Value) (w : World) (hv : w.cell? ⟨1, 0, none⟩ = some ev) (hev : ev = .nilIface ∨ ∃ te pe, ev = .iface te pe) :
    Calls Tryz.prog 29 #[.string s, .int .i64 10, .int .i64 8] w fun e w' => ∃ N, e = .returned (.tuple #[.int .u64 0, .iface 136 (.pointer (some ⟨N, 0, none⟩))]) ∧ w.heap.size ≤ N ∧ w'.heap[N]? = some (.cells #[.string ⟨#[80, 97, 114, 115, 101, 85, 105, 110, 116]⟩, .string s, ev] 162 (0, 0)) ∧ Below w.heap.size w w' := Any.strconv_ParseUint_10_at8_syntax Tryz.laysPu14 s hlim h ev w hv hev
open Go.RowKit in
/-- strconv.ParseUint(s, 10, 8), AT EVERY NUMERAL THAT NO uint8 HOLDS: THE GREATEST uint8, AND AN ERROR THAT IS NOT nil: a *NumError in a new block N: {Func: "ParseUint", Num: s's bytes, Err: what the variable ErrRange holds}. Of what was there nothing has turned. (LAID: no walk: one application.) -/
theorem Tryz.strconv_ParseUint_10_at8_range (s : ByteArray) (hlim : s.size ≤ 281474976710656) (h : Lib.parseUintB 8 s.data.toList = .range) (ev : Value) (w : World) (hv : w.cell? ⟨2, 0, none⟩ = some ev) (hev : ev = .nilIface ∨ ∃ te pe, ev = .iface te pe) :
    Calls Tryz.prog 29 #[.string s, .int .i64 10, .int .i64 8] w fun e w' => ∃ N, e = .returned (.tuple #[.int .u64 255, .iface 136 (.pointer (some ⟨N, 0, none⟩))]) ∧ w.heap.size ≤ N ∧ w'.heap[N]? = some (.cells #[.string ⟨#[80, 97, 114, 115, 101, 85, 105, 110, 116]⟩, .string s, ev] 162 (0, 0)) ∧ Below w.heap.size w w' := Any.strconv_ParseUint_10_at8_range Tryz.laysPu14 s hlim h ev w hv hev
def Tryz.lays264_ren : Go.Shelf.Ren := ⟨fun | 264 => 147 | n => n, fun | 53 => 22 | 46 => 54 | n => n, fun | n => n⟩
theorem Tryz.lays264 : Go.Proofs.Lays.n264 Tryz.prog Tryz.lays264_ren := {
  mixed := by kernel_rfl
  f264 := Tryz.func147.trans (congrArg some (by kernel_rfl))
  t46 := Tryz.underlying54
  a46 := Tryz.isAgg54
  z46 := Tryz.sizeOf54
  v46 := Tryz.zeroValue54
  t53 := Tryz.underlying22
  a53 := Tryz.isAgg22
  z53 := Tryz.sizeOf22
  v53 := Tryz.zeroValue22 }
open Go.RowKit Go.Lib in
theorem Tryz.bits_Mul64 (x y : Nat) (hx : x < 18446744073709551616) (hy : y < 18446744073709551616) (w : World) :
    Calls Tryz.prog 147 #[.int .u64 x, .int .u64 y] w fun e w' => e = .returned (.tuple #[.int .u64 ((x * y / 18446744073709551616 : Nat) : Int), .int .u64 ((x * y % 18446744073709551616 : Nat) : Int)]) ∧ w' = w := Any.bits_Mul64 Tryz.lays264 x y hx hy w
end Go.Proofs
