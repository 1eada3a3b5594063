/-
  DERIVED: THE SHELF's CONTRACTS AT THIS DUMP, IN PLAIN WORDS (tools/lay-plain.mjs out of 'TryzShelf.lean', which tools/lay-shelf.mjs wrote): THE SAME DECLARATIONS UNDER THE SAME NAMES: 'import', 'namespace', 'open', 'def', 'theorem' AND NOTHING ELSE: no command of the shelf's: FOR A HAND-IN. Each laying: the table of numbers ('.._ren') and one theorem, a field a fact of the dump's own or the kernel's comparison; each contract: ONE APPLICATION.
-/
import Derived.Shelf.Small.Utf8
import Derived.Shelf.Small.Bits
import Derived.Shelf.Strconv.Itoa0
import Derived.Shelf.Strconv.Itoa1
import Derived.Shelf.LaysM
import Derived.Shelf.Strconv.Itoa2
import Derived.Shelf.Strconv.Itoa3
import Derived.Shelf.Strconv.ParseIntEmpty
import Derived.Shelf.Strconv.Clone
import Derived.Shelf.Strconv.SyntaxError
import Derived.Shelf.LaysC
import Derived.Shelf.Strconv.ToError
import Derived.Shelf.Strconv.Lower
import Derived.Shelf.Strconv.ParseUint10
import Derived.Shelf.Strconv.ParseUint10Empty
import Derived.Shelf.Strconv.ParseUint10Any
import Derived.Shelf.Strconv.ParseInt10
import Derived.Shelf.Strconv.RangeError
import Derived.Shelf.Strconv.ToErrorRange
import Derived.Shelf.Strconv.ParseUintEmpty
import Derived.Shelf.Strconv.ParseUint10b64
import Derived.Shelf.Strconv.ParseUint10b32
import Derived.Shelf.Strconv.ParseUint10b16
import Derived.Shelf.Strconv.ParseUint10b8
import Derived.Shelf.Strconv.ParseUint10At
import Derived.Shelf.Strconv.ParseInt10At64
import Derived.Shelf.Strconv.ParseInt10At32
import Derived.Shelf.Strconv.ParseInt10At16
import Derived.Shelf.Strconv.ParseInt10At8
import Derived.Shelf.Strconv.ParseInt10All
import Derived.Shelf.Strconv.ParseIntPublic10
import Derived.Shelf.Strconv.ErrVarParseInt
import Derived.Shelf.Unicode.Latin
import Derived.Shelf.Unicode.DecodeSlow
import Derived.Shelf.Unicode.CaseLookup
import Derived.Shelf.Unicode.CaseConvert
import Derived.Shelf.Unicode.CaseTo
import Derived.Shelf.Unicode.CaseLaid
import Derived.Ground.Names2Prog
import Derived.Shelf.Slices.Clone
import Derived.Test.YtdmggcbbfljciaaGreatDoorProg
namespace Go.Proofs
open Go.Shelf
def Tryz.lays125_ren : Go.Shelf.Ren := ⟨fun | 125 => 50 | 128 => 77 | 129 => 78 | n => n, fun | 46 => 98 | 3 => 3 | 51 => 136 | 53 => 119 | 4 => 4 | 5 => 5 | 9 => 9 | n => n, fun | n => n⟩
theorem Tryz.lays125 : Go.Proofs.Lays.n125 Tryz.prog Tryz.lays125_ren := {
  mixed := by kernel_rfl
  f125 := Tryz.func50.trans (congrArg some (by kernel_rfl))
  f128 := Tryz.func77.trans (congrArg some (by kernel_rfl))
  f129 := Tryz.func78.trans (congrArg some (by kernel_rfl))
  t3 := Tryz.underlying3
  a3 := Tryz.isAgg3
  z3 := Tryz.sizeOf3
  v3 := Tryz.zeroValue3
  t4 := Tryz.underlying4
  a4 := Tryz.isAgg4
  z4 := Tryz.sizeOf4
  v4 := Tryz.zeroValue4
  t5 := Tryz.underlying5
  a5 := Tryz.isAgg5
  z5 := Tryz.sizeOf5
  v5 := Tryz.zeroValue5
  t9 := Tryz.underlying9
  a9 := Tryz.isAgg9
  z9 := Tryz.sizeOf9
  v9 := Tryz.zeroValue9
  t46 := Tryz.underlying98
  a46 := Tryz.isAgg98
  z46 := Tryz.sizeOf98
  v46 := Tryz.zeroValue98
  t51 := Tryz.underlying136
  a51 := Tryz.isAgg136
  z51 := Tryz.sizeOf136
  v51 := Tryz.zeroValue136
  t53 := Tryz.underlying119
  a53 := Tryz.isAgg119
  z53 := Tryz.sizeOf119
  v53 := Tryz.zeroValue119 }
/-- bits.Len: "Len returns the minimum number of bits required to represent x; the result is 0 for x == 0.": IT RETURNS 'Lib.bitLen x'; the world is as it was. (A uint has 64 bits in the model.) ITS CALLEE bits.Len64 IS MET BY ITS OWN CONTRACT OFF THE SHELF (lay that first). (LAID: no walk: one application.) -/
theorem Tryz.bits_Len (x : Int) (w : World) (h0 : 0 ≤ x) (h1 : x ≤ 18446744073709551615) :
    Calls Tryz.prog 50 #[.int .u64 x] w fun e w' => e = .returned (.int .i64 (Lib.bitLen x.toNat)) ∧ w' = w := Any.bits_Len Tryz.lays125 x w h0 h1
def Tryz.laysM171_ren : Go.Shelf.Ren := ⟨fun | 171 => 47 | 243 => 67 | 246 => 96 | 283 => 123 | 284 => 124 | 285 => 125 | 286 => 126 | 129 => 78 | 317 => 148 | 318 => 149 | 319 => 150 | 320 => 151 | 337 => 163 | 338 => 164 | n => n, fun | 3 => 3 | 9 => 9 | 2 => 2 | 4 => 4 | 171 => 196 | 0 => 0 | 53 => 119 | 37 => 91 | 5 => 5 | 173 => 198 | 212 => 225 | 51 => 136 | 20 => 20 | 213 => 226 | 46 => 98 | 232 => 241 | 233 => 242 | n => n, fun | 17 => 4 | 18 => 7 | 19 => 8 | n => n⟩
theorem Tryz.laysM171 : Go.Proofs.LaysM.n171 Tryz.prog Tryz.laysM171_ren := {
  mixed := by kernel_rfl
  f129 := Tryz.func78.trans (congrArg some (by kernel_rfl))
  f171 := Tryz.func47.trans (congrArg some (by kernel_rfl))
  f243 := Tryz.func67.trans (congrArg some (by kernel_rfl))
  f246 := Tryz.func96.trans (congrArg some (by kernel_rfl))
  f283 := Tryz.func123.trans (congrArg some (by kernel_rfl))
  f284 := Tryz.func124.trans (congrArg some (by kernel_rfl))
  f285 := Tryz.func125.trans (congrArg some (by kernel_rfl))
  f286 := Tryz.func126.trans (congrArg some (by kernel_rfl))
  f317 := Tryz.func148.trans (congrArg some (by kernel_rfl))
  f318 := Tryz.func149.trans (congrArg some (by kernel_rfl))
  f319 := Tryz.func150.trans (congrArg some (by kernel_rfl))
  f320 := Tryz.func151.trans (congrArg some (by kernel_rfl))
  f337 := Tryz.func163.trans (congrArg some (by kernel_rfl))
  f338 := Tryz.func164.trans (congrArg some (by kernel_rfl))
  t0 := Tryz.underlying0
  a0 := Tryz.isAgg0
  z0 := Tryz.sizeOf0
  v0 := Tryz.zeroValue0
  t2 := Tryz.underlying2
  a2 := Tryz.isAgg2
  z2 := Tryz.sizeOf2
  v2 := Tryz.zeroValue2
  t3 := Tryz.underlying3
  a3 := Tryz.isAgg3
  z3 := Tryz.sizeOf3
  v3 := Tryz.zeroValue3
  t4 := Tryz.underlying4
  a4 := Tryz.isAgg4
  z4 := Tryz.sizeOf4
  v4 := Tryz.zeroValue4
  t5 := Tryz.underlying5
  a5 := Tryz.isAgg5
  z5 := Tryz.sizeOf5
  v5 := Tryz.zeroValue5
  t9 := Tryz.underlying9
  a9 := Tryz.isAgg9
  z9 := Tryz.sizeOf9
  v9 := Tryz.zeroValue9
  t20 := Tryz.underlying20
  a20 := Tryz.isAgg20
  z20 := Tryz.sizeOf20
  v20 := Tryz.zeroValue20
  t37 := Tryz.underlying91
  a37 := Tryz.isAgg91
  z37 := Tryz.sizeOf91
  v37 := Tryz.zeroValue91
  t46 := Tryz.underlying98
  a46 := Tryz.isAgg98
  z46 := Tryz.sizeOf98
  v46 := Tryz.zeroValue98
  t51 := Tryz.underlying136
  a51 := Tryz.isAgg136
  z51 := Tryz.sizeOf136
  v51 := Tryz.zeroValue136
  t53 := Tryz.underlying119
  a53 := Tryz.isAgg119
  z53 := Tryz.sizeOf119
  v53 := Tryz.zeroValue119
  t171 := Tryz.underlying196
  a171 := Tryz.isAgg196
  z171 := Tryz.sizeOf196
  v171 := Tryz.zeroValue196
  t173 := Tryz.underlying198
  a173 := Tryz.isAgg198
  z173 := Tryz.sizeOf198
  v173 := Tryz.zeroValue198
  t212 := Tryz.underlying225
  a212 := Tryz.isAgg225
  z212 := Tryz.sizeOf225
  v212 := Tryz.zeroValue225
  t213 := Tryz.underlying226
  a213 := Tryz.isAgg226
  z213 := Tryz.sizeOf226
  t232 := Tryz.underlying241
  a232 := Tryz.isAgg241
  z232 := Tryz.sizeOf241
  v232 := Tryz.zeroValue241
  t233 := Tryz.underlying242
  a233 := Tryz.isAgg242
  z233 := Tryz.sizeOf242
  v233 := Tryz.zeroValue242
  g17 := by kernel_rfl
  g18 := by kernel_rfl
  g19 := by kernel_rfl
  i0 := by kernel_rfl
  i2 := by kernel_rfl
  i3 := by kernel_rfl
  i4 := by kernel_rfl
  i5 := by kernel_rfl
  i9 := by kernel_rfl
  i20 := by kernel_rfl
  i37 := by kernel_rfl
  i46 := by kernel_rfl
  i51 := by kernel_rfl
  i53 := by kernel_rfl
  i171 := by kernel_rfl
  i173 := by kernel_rfl
  i212 := by kernel_rfl
  i232 := by kernel_rfl
  i233 := by kernel_rfl
  m17 := by kernel_rfl
  m18 := by kernel_rfl
  m19 := by kernel_rfl }
open Go.RowKit Go.Sort Go.Lib in
/-- strconv.Itoa: "Itoa is equivalent to FormatInt(int64(i), 10).": i's DECIMAL NUMERAL ('Lib.itoa': a '-' where i is negative, then the digits), FOR EVERY int. The world behind the call: the world before it, new blocks behind the heap (the library's 'var a [24]byte'), draws. (LAID: no walk: one application.) -/
theorem Tryz.strconv_Itoa (n : Int) (h0 : -9223372036854775808 ≤ n) (h1 : n ≤ 9223372036854775807) (w : World) (htab : Lib.TabIs Tryz.prog w "internal/strconv.uint64pow10" .u64 Lib.pow10Tab) :
    Calls Tryz.prog 47 #[.int .i64 n] w fun e w' => e = .returned (.string ⟨(Lib.itoa n).toArray⟩) ∧ ∃ k os, w' = grow (w.drewN k) os := Any.strconv_Itoa Tryz.laysM171 n h0 h1 w htab
def Tryz.lays287_ren : Go.Shelf.Ren := ⟨fun | 287 => 136 | 321 => 160 | 322 => 161 | n => n, fun | 9 => 9 | 3 => 3 | 53 => 119 | 75 => 60 | 4 => 4 | 167 => 212 | 5 => 5 | 46 => 98 | 37 => 91 | 0 => 0 | 21 => 21 | 80 => 31 | n => n, fun | n => n⟩
theorem Tryz.lays287 : Go.Proofs.Lays.n287 Tryz.prog Tryz.lays287_ren := {
  mixed := by kernel_rfl
  f287 := Tryz.func136.trans (congrArg some (by kernel_rfl))
  f321 := Tryz.func160.trans (congrArg some (by kernel_rfl))
  f322 := Tryz.func161.trans (congrArg some (by kernel_rfl))
  t0 := Tryz.underlying0
  a0 := Tryz.isAgg0
  z0 := Tryz.sizeOf0
  v0 := Tryz.zeroValue0
  t3 := Tryz.underlying3
  a3 := Tryz.isAgg3
  z3 := Tryz.sizeOf3
  v3 := Tryz.zeroValue3
  t4 := Tryz.underlying4
  a4 := Tryz.isAgg4
  z4 := Tryz.sizeOf4
  v4 := Tryz.zeroValue4
  t5 := Tryz.underlying5
  a5 := Tryz.isAgg5
  z5 := Tryz.sizeOf5
  v5 := Tryz.zeroValue5
  t9 := Tryz.underlying9
  a9 := Tryz.isAgg9
  z9 := Tryz.sizeOf9
  v9 := Tryz.zeroValue9
  t21 := Tryz.underlying21
  a21 := Tryz.isAgg21
  z21 := Tryz.sizeOf21
  v21 := Tryz.zeroValue21
  t37 := Tryz.underlying91
  a37 := Tryz.isAgg91
  z37 := Tryz.sizeOf91
  v37 := Tryz.zeroValue91
  t46 := Tryz.underlying98
  a46 := Tryz.isAgg98
  z46 := Tryz.sizeOf98
  v46 := Tryz.zeroValue98
  t53 := Tryz.underlying119
  a53 := Tryz.isAgg119
  z53 := Tryz.sizeOf119
  v53 := Tryz.zeroValue119
  t75 := Tryz.underlying60
  a75 := Tryz.isAgg60
  z75 := Tryz.sizeOf60
  v75 := Tryz.zeroValue60
  t167 := Tryz.underlying212
  a167 := Tryz.isAgg212
  z167 := Tryz.sizeOf212
  v167 := Tryz.zeroValue212 }
open Go.RowKit in
/-- internal/strconv.ParseUint(s, 10, 32), s NOT EMPTY: 'Lib.parseUintM 4294967295 0' OF ITS BYTES: the number; or (0, ErrSyntax); or (the greatest uint32, ErrRange). The world behind the call: the one new row that '[]byte(s)' lays. (LAID: no walk: one application.) -/
theorem Tryz.internal_strconv_ParseUint_10_b32 (t : ByteArray) (hne : t.size ≠ 0) (hmax : t.size ≤ 9223372036854775806) (w : World) :
    Calls Tryz.prog 136 #[.string t, .int .i64 10, .int .i64 32] w fun e w' => e = .returned (Lib.uintTupleM 212 4294967295 (Lib.parseUintM 4294967295 0 t.data.toList)) ∧ w' = Lib.bytesWorld w 5 t := Any.internal_strconv_ParseUint_10_b32 Tryz.lays287 t hne hmax w
def Tryz.laysC174_ren : Go.Shelf.Ren := ⟨fun | 174 => 84 | 247 => 110 | 245 => 111 | 287 => 136 | 279 => 137 | 280 => 138 | 281 => 139 | 282 => 140 | 321 => 160 | 322 => 161 | 316 => 162 | 171 => 47 | 205 => 41 | 243 => 67 | 246 => 96 | 283 => 123 | 284 => 124 | 285 => 125 | 286 => 126 | 129 => 78 | 317 => 148 | 318 => 149 | 319 => 150 | 320 => 151 | 337 => 163 | 338 => 164 | n => n, fun | 9 => 9 | 3 => 3 | 2 => 2 | 75 => 60 | 85 => 147 | 4 => 4 | 167 => 212 | 5 => 5 | 53 => 119 | 175 => 204 | 46 => 98 | 168 => 149 | 37 => 91 | 0 => 0 | 210 => 152 | 21 => 21 | 127 => 154 | 145 => 108 | 143 => 106 | 171 => 196 | 173 => 198 | 212 => 225 | 51 => 136 | 20 => 20 | 213 => 226 | 232 => 241 | 233 => 242 | 80 => 31 | n => n, fun | 15 => 5 | 16 => 6 | 17 => 4 | 18 => 7 | 19 => 8 | n => n⟩
theorem Tryz.laysC174 : Go.Proofs.LaysC.n174 Tryz.prog Tryz.laysC174_ren := {
  mixed := by kernel_rfl
  f129 := Tryz.func78.trans (congrArg some (by kernel_rfl))
  f171 := Tryz.func47.trans (congrArg some (by kernel_rfl))
  f174 := Tryz.func84.trans (congrArg some (by kernel_rfl))
  f205 := Tryz.func41.trans (congrArg some (by kernel_rfl))
  f243 := Tryz.func67.trans (congrArg some (by kernel_rfl))
  f245 := Tryz.func111.trans (congrArg some (by kernel_rfl))
  f246 := Tryz.func96.trans (congrArg some (by kernel_rfl))
  f247 := Tryz.func110.trans (congrArg some (by kernel_rfl))
  f279 := Tryz.func137.trans (congrArg some (by kernel_rfl))
  f280 := Tryz.func138.trans (congrArg some (by kernel_rfl))
  f281 := Tryz.func139.trans (congrArg some (by kernel_rfl))
  f282 := Tryz.func140.trans (congrArg some (by kernel_rfl))
  f283 := Tryz.func123.trans (congrArg some (by kernel_rfl))
  f284 := Tryz.func124.trans (congrArg some (by kernel_rfl))
  f285 := Tryz.func125.trans (congrArg some (by kernel_rfl))
  f286 := Tryz.func126.trans (congrArg some (by kernel_rfl))
  f287 := Tryz.func136.trans (congrArg some (by kernel_rfl))
  f316 := Tryz.func162.trans (congrArg some (by kernel_rfl))
  f317 := Tryz.func148.trans (congrArg some (by kernel_rfl))
  f318 := Tryz.func149.trans (congrArg some (by kernel_rfl))
  f319 := Tryz.func150.trans (congrArg some (by kernel_rfl))
  f320 := Tryz.func151.trans (congrArg some (by kernel_rfl))
  f321 := Tryz.func160.trans (congrArg some (by kernel_rfl))
  f322 := Tryz.func161.trans (congrArg some (by kernel_rfl))
  f337 := Tryz.func163.trans (congrArg some (by kernel_rfl))
  f338 := Tryz.func164.trans (congrArg some (by kernel_rfl))
  t0 := Tryz.underlying0
  a0 := Tryz.isAgg0
  z0 := Tryz.sizeOf0
  v0 := Tryz.zeroValue0
  t2 := Tryz.underlying2
  a2 := Tryz.isAgg2
  z2 := Tryz.sizeOf2
  v2 := Tryz.zeroValue2
  t3 := Tryz.underlying3
  a3 := Tryz.isAgg3
  z3 := Tryz.sizeOf3
  v3 := Tryz.zeroValue3
  t4 := Tryz.underlying4
  a4 := Tryz.isAgg4
  z4 := Tryz.sizeOf4
  v4 := Tryz.zeroValue4
  t5 := Tryz.underlying5
  a5 := Tryz.isAgg5
  z5 := Tryz.sizeOf5
  v5 := Tryz.zeroValue5
  t9 := Tryz.underlying9
  a9 := Tryz.isAgg9
  z9 := Tryz.sizeOf9
  v9 := Tryz.zeroValue9
  t20 := Tryz.underlying20
  a20 := Tryz.isAgg20
  z20 := Tryz.sizeOf20
  v20 := Tryz.zeroValue20
  t21 := Tryz.underlying21
  a21 := Tryz.isAgg21
  z21 := Tryz.sizeOf21
  v21 := Tryz.zeroValue21
  t37 := Tryz.underlying91
  a37 := Tryz.isAgg91
  z37 := Tryz.sizeOf91
  v37 := Tryz.zeroValue91
  t46 := Tryz.underlying98
  a46 := Tryz.isAgg98
  z46 := Tryz.sizeOf98
  v46 := Tryz.zeroValue98
  t51 := Tryz.underlying136
  a51 := Tryz.isAgg136
  z51 := Tryz.sizeOf136
  v51 := Tryz.zeroValue136
  t53 := Tryz.underlying119
  a53 := Tryz.isAgg119
  z53 := Tryz.sizeOf119
  v53 := Tryz.zeroValue119
  t75 := Tryz.underlying60
  a75 := Tryz.isAgg60
  z75 := Tryz.sizeOf60
  v75 := Tryz.zeroValue60
  t85 := Tryz.underlying147
  a85 := Tryz.isAgg147
  z85 := Tryz.sizeOf147
  v85 := Tryz.zeroValue147
  t127 := Tryz.underlying154
  a127 := Tryz.isAgg154
  z127 := Tryz.sizeOf154
  v127 := Tryz.zeroValue154
  t143 := Tryz.underlying106
  a143 := Tryz.isAgg106
  z143 := Tryz.sizeOf106
  v143 := Tryz.zeroValue106
  t145 := Tryz.underlying108
  a145 := Tryz.isAgg108
  z145 := Tryz.sizeOf108
  v145 := Tryz.zeroValue108
  t167 := Tryz.underlying212
  a167 := Tryz.isAgg212
  z167 := Tryz.sizeOf212
  v167 := Tryz.zeroValue212
  t168 := Tryz.underlying149
  a168 := Tryz.isAgg149
  z168 := Tryz.sizeOf149
  v168 := Tryz.zeroValue149
  t171 := Tryz.underlying196
  a171 := Tryz.isAgg196
  z171 := Tryz.sizeOf196
  v171 := Tryz.zeroValue196
  t173 := Tryz.underlying198
  a173 := Tryz.isAgg198
  z173 := Tryz.sizeOf198
  v173 := Tryz.zeroValue198
  t175 := Tryz.underlying204
  a175 := Tryz.isAgg204
  z175 := Tryz.sizeOf204
  v175 := Tryz.zeroValue204
  t210 := Tryz.underlying152
  a210 := Tryz.isAgg152
  z210 := Tryz.sizeOf152
  v210 := Tryz.zeroValue152
  t212 := Tryz.underlying225
  a212 := Tryz.isAgg225
  z212 := Tryz.sizeOf225
  v212 := Tryz.zeroValue225
  t213 := Tryz.underlying226
  a213 := Tryz.isAgg226
  z213 := Tryz.sizeOf226
  t232 := Tryz.underlying241
  a232 := Tryz.isAgg241
  z232 := Tryz.sizeOf241
  v232 := Tryz.zeroValue241
  t233 := Tryz.underlying242
  a233 := Tryz.isAgg242
  z233 := Tryz.sizeOf242
  v233 := Tryz.zeroValue242
  g15 := by kernel_rfl
  g16 := by kernel_rfl
  g17 := by kernel_rfl
  g18 := by kernel_rfl
  g19 := by kernel_rfl
  t80 := Tryz.underlying31
  a80 := Tryz.isAgg31
  z80 := Tryz.sizeOf31
  v80 := Tryz.zeroValue31
  i0 := by kernel_rfl
  i2 := by kernel_rfl
  i3 := by kernel_rfl
  i4 := by kernel_rfl
  i5 := by kernel_rfl
  i9 := by kernel_rfl
  i20 := by kernel_rfl
  i21 := by kernel_rfl
  i37 := by kernel_rfl
  i46 := by kernel_rfl
  i51 := by kernel_rfl
  i53 := by kernel_rfl
  i75 := by kernel_rfl
  i80 := by kernel_rfl
  i85 := by kernel_rfl
  i127 := by kernel_rfl
  i143 := by kernel_rfl
  i145 := by kernel_rfl
  i167 := by kernel_rfl
  i168 := by kernel_rfl
  i171 := by kernel_rfl
  i173 := by kernel_rfl
  i175 := by kernel_rfl
  i210 := by kernel_rfl
  i212 := by kernel_rfl
  i232 := by kernel_rfl
  i233 := by kernel_rfl
  m15 := by kernel_rfl
  m16 := by kernel_rfl
  m17 := by kernel_rfl
  m18 := by kernel_rfl
  m19 := by kernel_rfl
  c0 := by kernel_rfl
  c2 := by kernel_rfl
  c3 := by kernel_rfl
  c4 := by kernel_rfl
  c5 := by kernel_rfl
  c9 := by kernel_rfl
  c20 := by kernel_rfl
  c21 := by kernel_rfl
  c37 := by kernel_rfl
  c46 := by kernel_rfl
  c51 := by kernel_rfl
  c53 := by kernel_rfl
  c75 := by kernel_rfl
  c80 := by kernel_rfl
  c85 := by kernel_rfl
  c127 := by kernel_rfl
  c143 := by kernel_rfl
  c145 := by kernel_rfl
  c167 := by kernel_rfl
  c168 := by kernel_rfl
  c171 := by kernel_rfl
  c173 := by kernel_rfl
  c175 := by kernel_rfl
  c210 := by kernel_rfl
  c212 := by kernel_rfl
  c213 := by kernel_rfl
  c232 := by kernel_rfl
  c233 := by kernel_rfl }
open Go.RowKit in
/-- strconv.ParseInt(s, 10, 0), AT EVERY STRING THAT SPELLS AN int64 ('Lib.parseIntB 64 s.data.toList = .ok v'): v, AND NO ERROR. (LAID: no walk: one application.) -/
theorem Tryz.strconv_ParseInt_10_at0_ok (s : ByteArray) (hmax : s.size ≤ 9223372036854775806) (v : Int) (h : Lib.parseIntB 64 s.data.toList = .ok v) (w : World) :
    Calls Tryz.prog 84 #[.string s, .int .i64 10, .int .i64 0] w fun e w' => e = .returned (.tuple #[.int .i64 v, .nilIface]) ∧ (w' = w ∨ ∃ t, w' = Lib.bytesWorld w 5 t) := Any.strconv_ParseInt_10_at0_ok Tryz.laysC174 s hmax v h w
def Tryz.laysNm216_ren : Go.Shelf.Ren := ⟨fun | 16 => 34 | n => n, fun | 24 => 45 | 9 => 9 | 4 => 4 | n => n, fun | n => n⟩
theorem Tryz.laysNm216 : Go.Proofs.Lays2.n16 Tryz.prog Tryz.laysNm216_ren := {
  mixed := by kernel_rfl
  f16 := Tryz.func34.trans (congrArg some (by kernel_rfl))
  t4 := Tryz.underlying4
  a4 := Tryz.isAgg4
  z4 := Tryz.sizeOf4
  v4 := Tryz.zeroValue4
  t9 := Tryz.underlying9
  a9 := Tryz.isAgg9
  z9 := Tryz.sizeOf9
  v9 := Tryz.zeroValue9
  t24 := Tryz.underlying45
  a24 := Tryz.isAgg45
  z24 := Tryz.sizeOf45
  v24 := Tryz.zeroValue45
  i9 := by kernel_rfl }
open Go.RowKit Go.Lib in
/-- slices.Clone at []string: "Clone returns a copy of the slice. The elements are copied using assignment, so this is a shallow clone. The result may have additional unused capacity. The result preserves the nilness of s.": OF A SLICE THAT IS NOT nil IT RETURNS A SLICE THAT IS NOT nil, OF THE SAME ELEMENTS, IN MEMORY OF THE CALL's OWN: in the how-to's words (6f): 'w'.ownsRow B e 1 v' n cells': v' begins at the head of a row among the blocks from B on (B: the heap's size at the call), not frozen, whose first cells are the elements · 'Below B w w'': below B all is as it was. The capacity is whatever the run-time gives. 'zs': what the cells behind the slice's address hold; 'zs.take n': its elements. (LAID: no walk: one application.) -/
theorem Tryz.slices_Clone_string (b off n c : Nat) (zs : List ByteArray) (w : World) (hz : n ≤ zs.length) (hbig : n * 16 ≤ 140737488355328) (hc : ∀ j, j < zs.length → w.cell? ⟨b, off + j, none⟩ = some (.string (zs.getD j ByteArray.empty))) :
    Calls Tryz.prog 34 #[.slice (some ⟨b, off, none⟩) n c] w fun e w' => ∃ v', e = .returned v' ∧ w'.ownsRow w.heap.size 9 1 v' n ((zs.take n).map (Value.string)) ∧ v' ≠ .slice none 0 0 ∧ Below w.heap.size w w' := Any.slices_Clone_string Tryz.laysNm216 b off n c zs w hz hbig hc
open Go.RowKit Go.Lib in
/-- The same at nil: nil comes back; the world is as it was. (LAID: no walk: one application.) -/
theorem Tryz.slices_Clone_string_nil (n c : Nat) (w : World) :
    Calls Tryz.prog 34 #[.slice none n c] w fun e w' => e = .returned (.slice none 0 0) ∧ w' = w := Any.slices_Clone_string_nil Tryz.laysNm216 n c w
end Go.Proofs
