/-
  DERIVED: THE SHELF's CONTRACTS AT THIS DUMP, IN PLAIN WORDS (tools/lay-plain.mjs out of 'TrydShelf.lean', which tools/lay-shelf.mjs wrote): THE SAME DECLARATIONS UNDER THE SAME NAMES: 'import', 'namespace', 'open', 'def', 'theorem' AND NOTHING ELSE: no command of the shelf's: FOR A HAND-IN. Each laying: the table of numbers ('.._ren') and one theorem, a field a fact of the dump's own or the kernel's comparison; each contract: ONE APPLICATION.
-/
import Derived.Shelf.Small.Bits
import Derived.Shelf.Strconv.Itoa0
import Derived.Shelf.Strconv.Itoa1
import Derived.Shelf.LaysM
import Derived.Shelf.Strconv.Itoa2
import Derived.Shelf.Strconv.Itoa3
import Derived.Shelf.Strconv.ParseIntEmpty
import Derived.Shelf.Strconv.Clone
import Derived.Shelf.Strconv.SyntaxError
import Derived.Shelf.LaysC
import Derived.Shelf.Strconv.ToError
import Derived.Shelf.Strconv.Lower
import Derived.Shelf.Strconv.ParseUint10
import Derived.Shelf.Strconv.ParseUint10Empty
import Derived.Shelf.Strconv.ParseUint10Any
import Derived.Shelf.Strconv.ParseInt10
import Derived.Shelf.Strconv.RangeError
import Derived.Shelf.Strconv.ToErrorRange
import Derived.Shelf.Strconv.ParseUintEmpty
import Derived.Shelf.Strconv.ParseUint10b64
import Derived.Shelf.Strconv.ParseUint10b32
import Derived.Shelf.Strconv.ParseUint10b16
import Derived.Shelf.Strconv.ParseUint10b8
import Derived.Shelf.Strconv.ParseUint10At
import Derived.Shelf.Strconv.ParseInt10At64
import Derived.Shelf.Strconv.ParseInt10At32
import Derived.Shelf.Strconv.ParseInt10At16
import Derived.Shelf.Strconv.ParseInt10At8
import Derived.Shelf.Strconv.ParseInt10All
import Derived.Shelf.Strconv.ParseIntPublic10
import Derived.Shelf.Strconv.ErrVarParseInt
import Derived.Ground.Names2Prog
import Derived.Shelf.Slices.Clone
import Derived.Test.YtaloidnoeafgiaaDoorProg
namespace Go.Proofs
open Go.Shelf
def Tryd.lays125_ren : Go.Shelf.Ren := ⟨fun | 125 => 96 | 128 => 113 | 129 => 114 | n => n, fun | 46 => 88 | 3 => 3 | 51 => 140 | 53 => 127 | 4 => 4 | 5 => 5 | 9 => 9 | n => n, fun | n => n⟩
theorem Tryd.lays125 : Go.Proofs.Lays.n125 Tryd.prog Tryd.lays125_ren := {
  mixed := by kernel_rfl
  f125 := Tryd.func96.trans (congrArg some (by kernel_rfl))
  f128 := Tryd.func113.trans (congrArg some (by kernel_rfl))
  f129 := Tryd.func114.trans (congrArg some (by kernel_rfl))
  t3 := Tryd.underlying3
  a3 := Tryd.isAgg3
  z3 := Tryd.sizeOf3
  v3 := Tryd.zeroValue3
  t4 := Tryd.underlying4
  a4 := Tryd.isAgg4
  z4 := Tryd.sizeOf4
  v4 := Tryd.zeroValue4
  t5 := Tryd.underlying5
  a5 := Tryd.isAgg5
  z5 := Tryd.sizeOf5
  v5 := Tryd.zeroValue5
  t9 := Tryd.underlying9
  a9 := Tryd.isAgg9
  z9 := Tryd.sizeOf9
  v9 := Tryd.zeroValue9
  t46 := Tryd.underlying88
  a46 := Tryd.isAgg88
  z46 := Tryd.sizeOf88
  v46 := Tryd.zeroValue88
  t51 := Tryd.underlying140
  a51 := Tryd.isAgg140
  z51 := Tryd.sizeOf140
  v51 := Tryd.zeroValue140
  t53 := Tryd.underlying127
  a53 := Tryd.isAgg127
  z53 := Tryd.sizeOf127
  v53 := Tryd.zeroValue127 }
/-- bits.Len: "Len returns the minimum number of bits required to represent x; the result is 0 for x == 0.": IT RETURNS 'Lib.bitLen x'; the world is as it was. (A uint has 64 bits in the model.) ITS CALLEE bits.Len64 IS MET BY ITS OWN CONTRACT OFF THE SHELF (lay that first). (LAID: no walk: one application.) -/
theorem Tryd.bits_Len (x : Int) (w : World) (h0 : 0 ≤ x) (h1 : x ≤ 18446744073709551615) :
    Calls Tryd.prog 96 #[.int .u64 x] w fun e w' => e = .returned (.int .i64 (Lib.bitLen x.toNat)) ∧ w' = w := Any.bits_Len Tryd.lays125 x w h0 h1
def Tryd.laysM171_ren : Go.Shelf.Ren := ⟨fun | 171 => 74 | 243 => 89 | 246 => 107 | 283 => 121 | 284 => 122 | 285 => 123 | 286 => 124 | 129 => 114 | 317 => 134 | 318 => 135 | 319 => 136 | 320 => 112 | 337 => 129 | 338 => 130 | n => n, fun | 3 => 3 | 9 => 9 | 2 => 2 | 4 => 4 | 171 => 148 | 0 => 0 | 53 => 127 | 37 => 77 | 5 => 5 | 173 => 150 | 212 => 160 | 51 => 140 | 20 => 20 | 213 => 161 | 46 => 88 | 232 => 163 | 233 => 164 | n => n, fun | 17 => 2 | 18 => 3 | 19 => 4 | n => n⟩
theorem Tryd.laysM171 : Go.Proofs.LaysM.n171 Tryd.prog Tryd.laysM171_ren := {
  mixed := by kernel_rfl
  f129 := Tryd.func114.trans (congrArg some (by kernel_rfl))
  f171 := Tryd.func74.trans (congrArg some (by kernel_rfl))
  f243 := Tryd.func89.trans (congrArg some (by kernel_rfl))
  f246 := Tryd.func107.trans (congrArg some (by kernel_rfl))
  f283 := Tryd.func121.trans (congrArg some (by kernel_rfl))
  f284 := Tryd.func122.trans (congrArg some (by kernel_rfl))
  f285 := Tryd.func123.trans (congrArg some (by kernel_rfl))
  f286 := Tryd.func124.trans (congrArg some (by kernel_rfl))
  f317 := Tryd.func134.trans (congrArg some (by kernel_rfl))
  f318 := Tryd.func135.trans (congrArg some (by kernel_rfl))
  f319 := Tryd.func136.trans (congrArg some (by kernel_rfl))
  f320 := Tryd.func112.trans (congrArg some (by kernel_rfl))
  f337 := Tryd.func129.trans (congrArg some (by kernel_rfl))
  f338 := Tryd.func130.trans (congrArg some (by kernel_rfl))
  t0 := Tryd.underlying0
  a0 := Tryd.isAgg0
  z0 := Tryd.sizeOf0
  v0 := Tryd.zeroValue0
  t2 := Tryd.underlying2
  a2 := Tryd.isAgg2
  z2 := Tryd.sizeOf2
  v2 := Tryd.zeroValue2
  t3 := Tryd.underlying3
  a3 := Tryd.isAgg3
  z3 := Tryd.sizeOf3
  v3 := Tryd.zeroValue3
  t4 := Tryd.underlying4
  a4 := Tryd.isAgg4
  z4 := Tryd.sizeOf4
  v4 := Tryd.zeroValue4
  t5 := Tryd.underlying5
  a5 := Tryd.isAgg5
  z5 := Tryd.sizeOf5
  v5 := Tryd.zeroValue5
  t9 := Tryd.underlying9
  a9 := Tryd.isAgg9
  z9 := Tryd.sizeOf9
  v9 := Tryd.zeroValue9
  t20 := Tryd.underlying20
  a20 := Tryd.isAgg20
  z20 := Tryd.sizeOf20
  v20 := Tryd.zeroValue20
  t37 := Tryd.underlying77
  a37 := Tryd.isAgg77
  z37 := Tryd.sizeOf77
  v37 := Tryd.zeroValue77
  t46 := Tryd.underlying88
  a46 := Tryd.isAgg88
  z46 := Tryd.sizeOf88
  v46 := Tryd.zeroValue88
  t51 := Tryd.underlying140
  a51 := Tryd.isAgg140
  z51 := Tryd.sizeOf140
  v51 := Tryd.zeroValue140
  t53 := Tryd.underlying127
  a53 := Tryd.isAgg127
  z53 := Tryd.sizeOf127
  v53 := Tryd.zeroValue127
  t171 := Tryd.underlying148
  a171 := Tryd.isAgg148
  z171 := Tryd.sizeOf148
  v171 := Tryd.zeroValue148
  t173 := Tryd.underlying150
  a173 := Tryd.isAgg150
  z173 := Tryd.sizeOf150
  v173 := Tryd.zeroValue150
  t212 := Tryd.underlying160
  a212 := Tryd.isAgg160
  z212 := Tryd.sizeOf160
  v212 := Tryd.zeroValue160
  t213 := Tryd.underlying161
  a213 := Tryd.isAgg161
  z213 := Tryd.sizeOf161
  t232 := Tryd.underlying163
  a232 := Tryd.isAgg163
  z232 := Tryd.sizeOf163
  v232 := Tryd.zeroValue163
  t233 := Tryd.underlying164
  a233 := Tryd.isAgg164
  z233 := Tryd.sizeOf164
  v233 := Tryd.zeroValue164
  g17 := by kernel_rfl
  g18 := by kernel_rfl
  g19 := by kernel_rfl
  i0 := by kernel_rfl
  i2 := by kernel_rfl
  i3 := by kernel_rfl
  i4 := by kernel_rfl
  i5 := by kernel_rfl
  i9 := by kernel_rfl
  i20 := by kernel_rfl
  i37 := by kernel_rfl
  i46 := by kernel_rfl
  i51 := by kernel_rfl
  i53 := by kernel_rfl
  i171 := by kernel_rfl
  i173 := by kernel_rfl
  i212 := by kernel_rfl
  i232 := by kernel_rfl
  i233 := by kernel_rfl
  m17 := by kernel_rfl
  m18 := by kernel_rfl
  m19 := by kernel_rfl }
open Go.RowKit Go.Sort Go.Lib in
/-- strconv.Itoa: "Itoa is equivalent to FormatInt(int64(i), 10).": i's DECIMAL NUMERAL ('Lib.itoa': a '-' where i is negative, then the digits), FOR EVERY int. The world behind the call: the world before it, new blocks behind the heap (the library's 'var a [24]byte'), draws. (LAID: no walk: one application.) -/
theorem Tryd.strconv_Itoa (n : Int) (h0 : -9223372036854775808 ≤ n) (h1 : n ≤ 9223372036854775807) (w : World) (htab : Lib.TabIs Tryd.prog w "internal/strconv.uint64pow10" .u64 Lib.pow10Tab) :
    Calls Tryd.prog 74 #[.int .i64 n] w fun e w' => e = .returned (.string ⟨(Lib.itoa n).toArray⟩) ∧ ∃ k os, w' = grow (w.drewN k) os := Any.strconv_Itoa Tryd.laysM171 n h0 h1 w htab
def Tryd.lays287_ren : Go.Shelf.Ren := ⟨fun | 287 => 109 | 321 => 125 | 322 => 126 | n => n, fun | 9 => 9 | 3 => 3 | 53 => 127 | 75 => 58 | 4 => 4 | 167 => 145 | 5 => 5 | 46 => 88 | 37 => 77 | 0 => 0 | 21 => 21 | 80 => 31 | n => n, fun | n => n⟩
theorem Tryd.lays287 : Go.Proofs.Lays.n287 Tryd.prog Tryd.lays287_ren := {
  mixed := by kernel_rfl
  f287 := Tryd.func109.trans (congrArg some (by kernel_rfl))
  f321 := Tryd.func125.trans (congrArg some (by kernel_rfl))
  f322 := Tryd.func126.trans (congrArg some (by kernel_rfl))
  t0 := Tryd.underlying0
  a0 := Tryd.isAgg0
  z0 := Tryd.sizeOf0
  v0 := Tryd.zeroValue0
  t3 := Tryd.underlying3
  a3 := Tryd.isAgg3
  z3 := Tryd.sizeOf3
  v3 := Tryd.zeroValue3
  t4 := Tryd.underlying4
  a4 := Tryd.isAgg4
  z4 := Tryd.sizeOf4
  v4 := Tryd.zeroValue4
  t5 := Tryd.underlying5
  a5 := Tryd.isAgg5
  z5 := Tryd.sizeOf5
  v5 := Tryd.zeroValue5
  t9 := Tryd.underlying9
  a9 := Tryd.isAgg9
  z9 := Tryd.sizeOf9
  v9 := Tryd.zeroValue9
  t21 := Tryd.underlying21
  a21 := Tryd.isAgg21
  z21 := Tryd.sizeOf21
  v21 := Tryd.zeroValue21
  t37 := Tryd.underlying77
  a37 := Tryd.isAgg77
  z37 := Tryd.sizeOf77
  v37 := Tryd.zeroValue77
  t46 := Tryd.underlying88
  a46 := Tryd.isAgg88
  z46 := Tryd.sizeOf88
  v46 := Tryd.zeroValue88
  t53 := Tryd.underlying127
  a53 := Tryd.isAgg127
  z53 := Tryd.sizeOf127
  v53 := Tryd.zeroValue127
  t75 := Tryd.underlying58
  a75 := Tryd.isAgg58
  z75 := Tryd.sizeOf58
  v75 := Tryd.zeroValue58
  t167 := Tryd.underlying145
  a167 := Tryd.isAgg145
  z167 := Tryd.sizeOf145
  v167 := Tryd.zeroValue145 }
open Go.RowKit in
/-- internal/strconv.ParseUint(s, 10, 32), s NOT EMPTY: 'Lib.parseUintM 4294967295 0' OF ITS BYTES: the number; or (0, ErrSyntax); or (the greatest uint32, ErrRange). The world behind the call: the one new row that '[]byte(s)' lays. (LAID: no walk: one application.) -/
theorem Tryd.internal_strconv_ParseUint_10_b32 (t : ByteArray) (hne : t.size ≠ 0) (hmax : t.size ≤ 9223372036854775806) (w : World) :
    Calls Tryd.prog 109 #[.string t, .int .i64 10, .int .i64 32] w fun e w' => e = .returned (Lib.uintTupleM 145 4294967295 (Lib.parseUintM 4294967295 0 t.data.toList)) ∧ w' = Lib.bytesWorld w 5 t := Any.internal_strconv_ParseUint_10_b32 Tryd.lays287 t hne hmax w
def Tryd.laysC174_ren : Go.Shelf.Ren := ⟨fun | 174 => 88 | 247 => 105 | 245 => 106 | 287 => 109 | 279 => 117 | 280 => 118 | 281 => 119 | 282 => 120 | 321 => 125 | 322 => 126 | 316 => 133 | 171 => 74 | 205 => 69 | 243 => 89 | 246 => 107 | 283 => 121 | 284 => 122 | 285 => 123 | 286 => 124 | 129 => 114 | 317 => 134 | 318 => 135 | 319 => 136 | 320 => 112 | 337 => 129 | 338 => 130 | n => n, fun | 9 => 9 | 3 => 3 | 2 => 2 | 75 => 58 | 85 => 119 | 4 => 4 | 167 => 145 | 5 => 5 | 53 => 127 | 175 => 128 | 46 => 88 | 168 => 121 | 37 => 77 | 0 => 0 | 210 => 124 | 21 => 21 | 127 => 165 | 145 => 117 | 143 => 115 | 171 => 148 | 173 => 150 | 212 => 160 | 51 => 140 | 20 => 20 | 213 => 161 | 232 => 163 | 233 => 164 | 80 => 31 | n => n, fun | 15 => 0 | 16 => 1 | 17 => 2 | 18 => 3 | 19 => 4 | n => n⟩
theorem Tryd.laysC174 : Go.Proofs.LaysC.n174 Tryd.prog Tryd.laysC174_ren := {
  mixed := by kernel_rfl
  f129 := Tryd.func114.trans (congrArg some (by kernel_rfl))
  f171 := Tryd.func74.trans (congrArg some (by kernel_rfl))
  f174 := Tryd.func88.trans (congrArg some (by kernel_rfl))
  f205 := Tryd.func69.trans (congrArg some (by kernel_rfl))
  f243 := Tryd.func89.trans (congrArg some (by kernel_rfl))
  f245 := Tryd.func106.trans (congrArg some (by kernel_rfl))
  f246 := Tryd.func107.trans (congrArg some (by kernel_rfl))
  f247 := Tryd.func105.trans (congrArg some (by kernel_rfl))
  f279 := Tryd.func117.trans (congrArg some (by kernel_rfl))
  f280 := Tryd.func118.trans (congrArg some (by kernel_rfl))
  f281 := Tryd.func119.trans (congrArg some (by kernel_rfl))
  f282 := Tryd.func120.trans (congrArg some (by kernel_rfl))
  f283 := Tryd.func121.trans (congrArg some (by kernel_rfl))
  f284 := Tryd.func122.trans (congrArg some (by kernel_rfl))
  f285 := Tryd.func123.trans (congrArg some (by kernel_rfl))
  f286 := Tryd.func124.trans (congrArg some (by kernel_rfl))
  f287 := Tryd.func109.trans (congrArg some (by kernel_rfl))
  f316 := Tryd.func133.trans (congrArg some (by kernel_rfl))
  f317 := Tryd.func134.trans (congrArg some (by kernel_rfl))
  f318 := Tryd.func135.trans (congrArg some (by kernel_rfl))
  f319 := Tryd.func136.trans (congrArg some (by kernel_rfl))
  f320 := Tryd.func112.trans (congrArg some (by kernel_rfl))
  f321 := Tryd.func125.trans (congrArg some (by kernel_rfl))
  f322 := Tryd.func126.trans (congrArg some (by kernel_rfl))
  f337 := Tryd.func129.trans (congrArg some (by kernel_rfl))
  f338 := Tryd.func130.trans (congrArg some (by kernel_rfl))
  t0 := Tryd.underlying0
  a0 := Tryd.isAgg0
  z0 := Tryd.sizeOf0
  v0 := Tryd.zeroValue0
  t2 := Tryd.underlying2
  a2 := Tryd.isAgg2
  z2 := Tryd.sizeOf2
  v2 := Tryd.zeroValue2
  t3 := Tryd.underlying3
  a3 := Tryd.isAgg3
  z3 := Tryd.sizeOf3
  v3 := Tryd.zeroValue3
  t4 := Tryd.underlying4
  a4 := Tryd.isAgg4
  z4 := Tryd.sizeOf4
  v4 := Tryd.zeroValue4
  t5 := Tryd.underlying5
  a5 := Tryd.isAgg5
  z5 := Tryd.sizeOf5
  v5 := Tryd.zeroValue5
  t9 := Tryd.underlying9
  a9 := Tryd.isAgg9
  z9 := Tryd.sizeOf9
  v9 := Tryd.zeroValue9
  t20 := Tryd.underlying20
  a20 := Tryd.isAgg20
  z20 := Tryd.sizeOf20
  v20 := Tryd.zeroValue20
  t21 := Tryd.underlying21
  a21 := Tryd.isAgg21
  z21 := Tryd.sizeOf21
  v21 := Tryd.zeroValue21
  t37 := Tryd.underlying77
  a37 := Tryd.isAgg77
  z37 := Tryd.sizeOf77
  v37 := Tryd.zeroValue77
  t46 := Tryd.underlying88
  a46 := Tryd.isAgg88
  z46 := Tryd.sizeOf88
  v46 := Tryd.zeroValue88
  t51 := Tryd.underlying140
  a51 := Tryd.isAgg140
  z51 := Tryd.sizeOf140
  v51 := Tryd.zeroValue140
  t53 := Tryd.underlying127
  a53 := Tryd.isAgg127
  z53 := Tryd.sizeOf127
  v53 := Tryd.zeroValue127
  t75 := Tryd.underlying58
  a75 := Tryd.isAgg58
  z75 := Tryd.sizeOf58
  v75 := Tryd.zeroValue58
  t85 := Tryd.underlying119
  a85 := Tryd.isAgg119
  z85 := Tryd.sizeOf119
  v85 := Tryd.zeroValue119
  t127 := Tryd.underlying165
  a127 := Tryd.isAgg165
  z127 := Tryd.sizeOf165
  v127 := Tryd.zeroValue165
  t143 := Tryd.underlying115
  a143 := Tryd.isAgg115
  z143 := Tryd.sizeOf115
  v143 := Tryd.zeroValue115
  t145 := Tryd.underlying117
  a145 := Tryd.isAgg117
  z145 := Tryd.sizeOf117
  v145 := Tryd.zeroValue117
  t167 := Tryd.underlying145
  a167 := Tryd.isAgg145
  z167 := Tryd.sizeOf145
  v167 := Tryd.zeroValue145
  t168 := Tryd.underlying121
  a168 := Tryd.isAgg121
  z168 := Tryd.sizeOf121
  v168 := Tryd.zeroValue121
  t171 := Tryd.underlying148
  a171 := Tryd.isAgg148
  z171 := Tryd.sizeOf148
  v171 := Tryd.zeroValue148
  t173 := Tryd.underlying150
  a173 := Tryd.isAgg150
  z173 := Tryd.sizeOf150
  v173 := Tryd.zeroValue150
  t175 := Tryd.underlying128
  a175 := Tryd.isAgg128
  z175 := Tryd.sizeOf128
  v175 := Tryd.zeroValue128
  t210 := Tryd.underlying124
  a210 := Tryd.isAgg124
  z210 := Tryd.sizeOf124
  v210 := Tryd.zeroValue124
  t212 := Tryd.underlying160
  a212 := Tryd.isAgg160
  z212 := Tryd.sizeOf160
  v212 := Tryd.zeroValue160
  t213 := Tryd.underlying161
  a213 := Tryd.isAgg161
  z213 := Tryd.sizeOf161
  t232 := Tryd.underlying163
  a232 := Tryd.isAgg163
  z232 := Tryd.sizeOf163
  v232 := Tryd.zeroValue163
  t233 := Tryd.underlying164
  a233 := Tryd.isAgg164
  z233 := Tryd.sizeOf164
  v233 := Tryd.zeroValue164
  g15 := by kernel_rfl
  g16 := by kernel_rfl
  g17 := by kernel_rfl
  g18 := by kernel_rfl
  g19 := by kernel_rfl
  t80 := Tryd.underlying31
  a80 := Tryd.isAgg31
  z80 := Tryd.sizeOf31
  v80 := Tryd.zeroValue31
  i0 := by kernel_rfl
  i2 := by kernel_rfl
  i3 := by kernel_rfl
  i4 := by kernel_rfl
  i5 := by kernel_rfl
  i9 := by kernel_rfl
  i20 := by kernel_rfl
  i21 := by kernel_rfl
  i37 := by kernel_rfl
  i46 := by kernel_rfl
  i51 := by kernel_rfl
  i53 := by kernel_rfl
  i75 := by kernel_rfl
  i80 := by kernel_rfl
  i85 := by kernel_rfl
  i127 := by kernel_rfl
  i143 := by kernel_rfl
  i145 := by kernel_rfl
  i167 := by kernel_rfl
  i168 := by kernel_rfl
  i171 := by kernel_rfl
  i173 := by kernel_rfl
  i175 := by kernel_rfl
  i210 := by kernel_rfl
  i212 := by kernel_rfl
  i232 := by kernel_rfl
  i233 := by kernel_rfl
  m15 := by kernel_rfl
  m16 := by kernel_rfl
  m17 := by kernel_rfl
  m18 := by kernel_rfl
  m19 := by kernel_rfl
  c0 := by kernel_rfl
  c2 := by kernel_rfl
  c3 := by kernel_rfl
  c4 := by kernel_rfl
  c5 := by kernel_rfl
  c9 := by kernel_rfl
  c20 := by kernel_rfl
  c21 := by kernel_rfl
  c37 := by kernel_rfl
  c46 := by kernel_rfl
  c51 := by kernel_rfl
  c53 := by kernel_rfl
  c75 := by kernel_rfl
  c80 := by kernel_rfl
  c85 := by kernel_rfl
  c127 := by kernel_rfl
  c143 := by kernel_rfl
  c145 := by kernel_rfl
  c167 := by kernel_rfl
  c168 := by kernel_rfl
  c171 := by kernel_rfl
  c173 := by kernel_rfl
  c175 := by kernel_rfl
  c210 := by kernel_rfl
  c212 := by kernel_rfl
  c213 := by kernel_rfl
  c232 := by kernel_rfl
  c233 := by kernel_rfl }
open Go.RowKit in
/-- strconv.ParseInt(s, 10, 0), AT EVERY STRING THAT SPELLS AN int64 ('Lib.parseIntB 64 s.data.toList = .ok v'): v, AND NO ERROR. (LAID: no walk: one application.) -/
theorem Tryd.strconv_ParseInt_10_at0_ok (s : ByteArray) (hmax : s.size ≤ 9223372036854775806) (v : Int) (h : Lib.parseIntB 64 s.data.toList = .ok v) (w : World) :
    Calls Tryd.prog 88 #[.string s, .int .i64 10, .int .i64 0] w fun e w' => e = .returned (.tuple #[.int .i64 v, .nilIface]) ∧ (w' = w ∨ ∃ t, w' = Lib.bytesWorld w 5 t) := Any.strconv_ParseInt_10_at0_ok Tryd.laysC174 s hmax v h w
def Tryd.laysNm215_ren : Go.Shelf.Ren := ⟨fun | 15 => 50 | n => n, fun | 22 => 22 | 3 => 3 | 4 => 4 | n => n, fun | n => n⟩
theorem Tryd.laysNm215 : Go.Proofs.Lays2.n15 Tryd.prog Tryd.laysNm215_ren := {
  mixed := by kernel_rfl
  f15 := Tryd.func50.trans (congrArg some (by kernel_rfl))
  t3 := Tryd.underlying3
  a3 := Tryd.isAgg3
  z3 := Tryd.sizeOf3
  v3 := Tryd.zeroValue3
  t4 := Tryd.underlying4
  a4 := Tryd.isAgg4
  z4 := Tryd.sizeOf4
  v4 := Tryd.zeroValue4
  t22 := Tryd.underlying22
  a22 := Tryd.isAgg22
  z22 := Tryd.sizeOf22
  v22 := Tryd.zeroValue22
  i3 := by kernel_rfl }
open Go.RowKit Go.Lib in
/-- slices.Clone at []int: "Clone returns a copy of the slice. The elements are copied using assignment, so this is a shallow clone. The result may have additional unused capacity. The result preserves the nilness of s.": OF A SLICE THAT IS NOT nil IT RETURNS A SLICE THAT IS NOT nil, OF THE SAME ELEMENTS, IN MEMORY OF THE CALL's OWN: in the how-to's words (6f): 'w'.ownsRow B e 1 v' n cells': v' begins at the head of a row among the blocks from B on (B: the heap's size at the call), not frozen, whose first cells are the elements · 'Below B w w'': below B all is as it was. The capacity is whatever the run-time gives. 'zs': what the cells behind the slice's address hold; 'zs.take n': its elements. (LAID: no walk: one application.) -/
theorem Tryd.slices_Clone_int (b off n c : Nat) (zs : List Int) (w : World) (hz : n ≤ zs.length) (hbig : n * 8 ≤ 140737488355328) (hc : ∀ j, j < zs.length → w.cell? ⟨b, off + j, none⟩ = some (.int .i64 (zs.getD j 0))) :
    Calls Tryd.prog 50 #[.slice (some ⟨b, off, none⟩) n c] w fun e w' => ∃ v', e = .returned v' ∧ w'.ownsRow w.heap.size 3 1 v' n ((zs.take n).map (Value.int .i64)) ∧ v' ≠ .slice none 0 0 ∧ Below w.heap.size w w' := Any.slices_Clone_int Tryd.laysNm215 b off n c zs w hz hbig hc
open Go.RowKit Go.Lib in
/-- The same at nil: nil comes back; the world is as it was. (LAID: no walk: one application.) -/
theorem Tryd.slices_Clone_int_nil (n c : Nat) (w : World) :
    Calls Tryd.prog 50 #[.slice none n c] w fun e w' => e = .returned (.slice none 0 0) ∧ w' = w := Any.slices_Clone_int_nil Tryd.laysNm215 n c w
def Tryd.laysNm216_ren : Go.Shelf.Ren := ⟨fun | 16 => 53 | n => n, fun | 24 => 47 | 9 => 9 | 4 => 4 | n => n, fun | n => n⟩
theorem Tryd.laysNm216 : Go.Proofs.Lays2.n16 Tryd.prog Tryd.laysNm216_ren := {
  mixed := by kernel_rfl
  f16 := Tryd.func53.trans (congrArg some (by kernel_rfl))
  t4 := Tryd.underlying4
  a4 := Tryd.isAgg4
  z4 := Tryd.sizeOf4
  v4 := Tryd.zeroValue4
  t9 := Tryd.underlying9
  a9 := Tryd.isAgg9
  z9 := Tryd.sizeOf9
  v9 := Tryd.zeroValue9
  t24 := Tryd.underlying47
  a24 := Tryd.isAgg47
  z24 := Tryd.sizeOf47
  v24 := Tryd.zeroValue47
  i9 := by kernel_rfl }
open Go.RowKit Go.Lib in
/-- slices.Clone at []string: "Clone returns a copy of the slice. The elements are copied using assignment, so this is a shallow clone. The result may have additional unused capacity. The result preserves the nilness of s.": OF A SLICE THAT IS NOT nil IT RETURNS A SLICE THAT IS NOT nil, OF THE SAME ELEMENTS, IN MEMORY OF THE CALL's OWN: in the how-to's words (6f): 'w'.ownsRow B e 1 v' n cells': v' begins at the head of a row among the blocks from B on (B: the heap's size at the call), not frozen, whose first cells are the elements · 'Below B w w'': below B all is as it was. The capacity is whatever the run-time gives. 'zs': what the cells behind the slice's address hold; 'zs.take n': its elements. (LAID: no walk: one application.) -/
theorem Tryd.slices_Clone_string (b off n c : Nat) (zs : List ByteArray) (w : World) (hz : n ≤ zs.length) (hbig : n * 16 ≤ 140737488355328) (hc : ∀ j, j < zs.length → w.cell? ⟨b, off + j, none⟩ = some (.string (zs.getD j ByteArray.empty))) :
    Calls Tryd.prog 53 #[.slice (some ⟨b, off, none⟩) n c] w fun e w' => ∃ v', e = .returned v' ∧ w'.ownsRow w.heap.size 9 1 v' n ((zs.take n).map (Value.string)) ∧ v' ≠ .slice none 0 0 ∧ Below w.heap.size w w' := Any.slices_Clone_string Tryd.laysNm216 b off n c zs w hz hbig hc
open Go.RowKit Go.Lib in
/-- The same at nil: nil comes back; the world is as it was. (LAID: no walk: one application.) -/
theorem Tryd.slices_Clone_string_nil (n c : Nat) (w : World) :
    Calls Tryd.prog 53 #[.slice none n c] w fun e w' => e = .returned (.slice none 0 0) ∧ w' = w := Any.slices_Clone_string_nil Tryd.laysNm216 n c w
end Go.Proofs
