/-
  DERIVED: THE SHELF's CONTRACTS AT THIS DUMP, IN PLAIN WORDS (tools/lay-plain.mjs out of 'TrydShelf.lean', which tools/lay-shelf.mjs wrote): THE SAME DECLARATIONS UNDER THE SAME NAMES: 'import', 'namespace', 'open', 'def', 'theorem' AND NOTHING ELSE: no command of the shelf's: FOR A HAND-IN. Each laying: the table of numbers ('.._ren') and one theorem, a field a fact of the dump's own or the kernel's comparison; each contract: ONE APPLICATION.
-/
import Derived.Shelf.Small.Bits
import Derived.Shelf.Strconv.Itoa0
import Derived.Shelf.Strconv.Itoa1
import Derived.Shelf.LaysM
import Derived.Shelf.Strconv.Itoa2
import Derived.Shelf.Strconv.Itoa3
import Derived.Shelf.Strconv.ParseIntEmpty
import Derived.Shelf.Strconv.Clone
import Derived.Shelf.Strconv.SyntaxError
import Derived.Shelf.LaysC
import Derived.Shelf.Strconv.ToError
import Derived.Shelf.Strconv.Lower
import Derived.Shelf.Strconv.ParseUint10
import Derived.Shelf.Strconv.ParseUint10Empty
import Derived.Shelf.Strconv.ParseUint10Any
import Derived.Shelf.Strconv.ParseInt10
import Derived.Shelf.Strconv.RangeError
import Derived.Shelf.Strconv.ToErrorRange
import Derived.Shelf.Strconv.ParseUintEmpty
import Derived.Shelf.Strconv.ParseUint10b64
import Derived.Shelf.Strconv.ParseUint10b32
import Derived.Shelf.Strconv.ParseUint10b16
import Derived.Shelf.Strconv.ParseUint10b8
import Derived.Shelf.Strconv.ParseUint10At
import Derived.Shelf.Strconv.ParseInt10At64
import Derived.Shelf.Strconv.ParseInt10At32
import Derived.Shelf.Strconv.ParseInt10At16
import Derived.Shelf.Strconv.ParseInt10At8
import Derived.Shelf.Strconv.ParseInt10All
import Derived.Shelf.Strconv.ParseIntPublic10
import Derived.Ground.MpProg
import Derived.Shelf.Pu.ParseUintPublic10
import Derived.Test.YtdmggcbbfljciaaDoorProg
namespace Go.Proofs
open Go.Shelf
def Tryd.lays125_ren : Go.Shelf.Ren := ⟨fun | 125 => 64 | 128 => 81 | 129 => 74 | n => n, fun | 46 => 87 | 3 => 3 | 51 => 118 | 53 => 92 | 4 => 4 | 5 => 5 | 9 => 9 | n => n, fun | n => n⟩
theorem Tryd.lays125 : Go.Proofs.Lays.n125 Tryd.prog Tryd.lays125_ren := {
  mixed := by kernel_rfl
  f125 := Tryd.func64.trans (congrArg some (by kernel_rfl))
  f128 := Tryd.func81.trans (congrArg some (by kernel_rfl))
  f129 := Tryd.func74.trans (congrArg some (by kernel_rfl))
  t3 := Tryd.underlying3
  a3 := Tryd.isAgg3
  z3 := Tryd.sizeOf3
  v3 := Tryd.zeroValue3
  t4 := Tryd.underlying4
  a4 := Tryd.isAgg4
  z4 := Tryd.sizeOf4
  v4 := Tryd.zeroValue4
  t5 := Tryd.underlying5
  a5 := Tryd.isAgg5
  z5 := Tryd.sizeOf5
  v5 := Tryd.zeroValue5
  t9 := Tryd.underlying9
  a9 := Tryd.isAgg9
  z9 := Tryd.sizeOf9
  v9 := Tryd.zeroValue9
  t46 := Tryd.underlying87
  a46 := Tryd.isAgg87
  z46 := Tryd.sizeOf87
  v46 := Tryd.zeroValue87
  t51 := Tryd.underlying118
  a51 := Tryd.isAgg118
  z51 := Tryd.sizeOf118
  v51 := Tryd.zeroValue118
  t53 := Tryd.underlying92
  a53 := Tryd.isAgg92
  z53 := Tryd.sizeOf92
  v53 := Tryd.zeroValue92 }
/-- bits.Len: "Len returns the minimum number of bits required to represent x; the result is 0 for x == 0.": IT RETURNS 'Lib.bitLen x'; the world is as it was. (A uint has 64 bits in the model.) ITS CALLEE bits.Len64 IS MET BY ITS OWN CONTRACT OFF THE SHELF (lay that first). (LAID: no walk: one application.) -/
theorem Tryd.bits_Len (x : Int) (w : World) (h0 : 0 ≤ x) (h1 : x ≤ 18446744073709551615) :
    Calls Tryd.prog 64 #[.int .u64 x] w fun e w' => e = .returned (.int .i64 (Lib.bitLen x.toNat)) ∧ w' = w := Any.bits_Len Tryd.lays125 x w h0 h1
def Tryd.laysM171_ren : Go.Shelf.Ren := ⟨fun | 171 => 30 | 243 => 36 | 246 => 44 | 283 => 57 | 284 => 58 | 285 => 59 | 286 => 60 | 129 => 74 | 317 => 73 | 318 => 75 | 319 => 76 | 320 => 77 | 337 => 87 | 338 => 88 | n => n, fun | 3 => 3 | 9 => 9 | 2 => 2 | 4 => 4 | 171 => 97 | 0 => 0 | 53 => 92 | 37 => 52 | 5 => 5 | 173 => 100 | 212 => 117 | 51 => 118 | 20 => 20 | 213 => 119 | 46 => 87 | 232 => 131 | 233 => 132 | n => n, fun | 17 => 2 | 18 => 3 | 19 => 4 | n => n⟩
theorem Tryd.laysM171 : Go.Proofs.LaysM.n171 Tryd.prog Tryd.laysM171_ren := {
  mixed := by kernel_rfl
  f129 := Tryd.func74.trans (congrArg some (by kernel_rfl))
  f171 := Tryd.func30.trans (congrArg some (by kernel_rfl))
  f243 := Tryd.func36.trans (congrArg some (by kernel_rfl))
  f246 := Tryd.func44.trans (congrArg some (by kernel_rfl))
  f283 := Tryd.func57.trans (congrArg some (by kernel_rfl))
  f284 := Tryd.func58.trans (congrArg some (by kernel_rfl))
  f285 := Tryd.func59.trans (congrArg some (by kernel_rfl))
  f286 := Tryd.func60.trans (congrArg some (by kernel_rfl))
  f317 := Tryd.func73.trans (congrArg some (by kernel_rfl))
  f318 := Tryd.func75.trans (congrArg some (by kernel_rfl))
  f319 := Tryd.func76.trans (congrArg some (by kernel_rfl))
  f320 := Tryd.func77.trans (congrArg some (by kernel_rfl))
  f337 := Tryd.func87.trans (congrArg some (by kernel_rfl))
  f338 := Tryd.func88.trans (congrArg some (by kernel_rfl))
  t0 := Tryd.underlying0
  a0 := Tryd.isAgg0
  z0 := Tryd.sizeOf0
  v0 := Tryd.zeroValue0
  t2 := Tryd.underlying2
  a2 := Tryd.isAgg2
  z2 := Tryd.sizeOf2
  v2 := Tryd.zeroValue2
  t3 := Tryd.underlying3
  a3 := Tryd.isAgg3
  z3 := Tryd.sizeOf3
  v3 := Tryd.zeroValue3
  t4 := Tryd.underlying4
  a4 := Tryd.isAgg4
  z4 := Tryd.sizeOf4
  v4 := Tryd.zeroValue4
  t5 := Tryd.underlying5
  a5 := Tryd.isAgg5
  z5 := Tryd.sizeOf5
  v5 := Tryd.zeroValue5
  t9 := Tryd.underlying9
  a9 := Tryd.isAgg9
  z9 := Tryd.sizeOf9
  v9 := Tryd.zeroValue9
  t20 := Tryd.underlying20
  a20 := Tryd.isAgg20
  z20 := Tryd.sizeOf20
  v20 := Tryd.zeroValue20
  t37 := Tryd.underlying52
  a37 := Tryd.isAgg52
  z37 := Tryd.sizeOf52
  v37 := Tryd.zeroValue52
  t46 := Tryd.underlying87
  a46 := Tryd.isAgg87
  z46 := Tryd.sizeOf87
  v46 := Tryd.zeroValue87
  t51 := Tryd.underlying118
  a51 := Tryd.isAgg118
  z51 := Tryd.sizeOf118
  v51 := Tryd.zeroValue118
  t53 := Tryd.underlying92
  a53 := Tryd.isAgg92
  z53 := Tryd.sizeOf92
  v53 := Tryd.zeroValue92
  t171 := Tryd.underlying97
  a171 := Tryd.isAgg97
  z171 := Tryd.sizeOf97
  v171 := Tryd.zeroValue97
  t173 := Tryd.underlying100
  a173 := Tryd.isAgg100
  z173 := Tryd.sizeOf100
  v173 := Tryd.zeroValue100
  t212 := Tryd.underlying117
  a212 := Tryd.isAgg117
  z212 := Tryd.sizeOf117
  v212 := Tryd.zeroValue117
  t213 := Tryd.underlying119
  a213 := Tryd.isAgg119
  z213 := Tryd.sizeOf119
  t232 := Tryd.underlying131
  a232 := Tryd.isAgg131
  z232 := Tryd.sizeOf131
  v232 := Tryd.zeroValue131
  t233 := Tryd.underlying132
  a233 := Tryd.isAgg132
  z233 := Tryd.sizeOf132
  v233 := Tryd.zeroValue132
  g17 := by kernel_rfl
  g18 := by kernel_rfl
  g19 := by kernel_rfl
  i0 := by kernel_rfl
  i2 := by kernel_rfl
  i3 := by kernel_rfl
  i4 := by kernel_rfl
  i5 := by kernel_rfl
  i9 := by kernel_rfl
  i20 := by kernel_rfl
  i37 := by kernel_rfl
  i46 := by kernel_rfl
  i51 := by kernel_rfl
  i53 := by kernel_rfl
  i171 := by kernel_rfl
  i173 := by kernel_rfl
  i212 := by kernel_rfl
  i232 := by kernel_rfl
  i233 := by kernel_rfl
  m17 := by kernel_rfl
  m18 := by kernel_rfl
  m19 := by kernel_rfl }
open Go.RowKit Go.Sort Go.Lib in
/-- strconv.Itoa: "Itoa is equivalent to FormatInt(int64(i), 10).": i's DECIMAL NUMERAL ('Lib.itoa': a '-' where i is negative, then the digits), FOR EVERY int. The world behind the call: the world before it, new blocks behind the heap (the library's 'var a [24]byte'), draws. (LAID: no walk: one application.) -/
theorem Tryd.strconv_Itoa (n : Int) (h0 : -9223372036854775808 ≤ n) (h1 : n ≤ 9223372036854775807) (w : World) (htab : Lib.TabIs Tryd.prog w "internal/strconv.uint64pow10" .u64 Lib.pow10Tab) :
    Calls Tryd.prog 30 #[.int .i64 n] w fun e w' => e = .returned (.string ⟨(Lib.itoa n).toArray⟩) ∧ ∃ k os, w' = grow (w.drewN k) os := Any.strconv_Itoa Tryd.laysM171 n h0 h1 w htab
def Tryd.lays287_ren : Go.Shelf.Ren := ⟨fun | 287 => 52 | 321 => 70 | 322 => 71 | n => n, fun | 9 => 9 | 3 => 3 | 53 => 92 | 75 => 41 | 4 => 4 | 167 => 91 | 5 => 5 | 46 => 87 | 37 => 52 | 0 => 0 | 21 => 21 | 80 => 30 | n => n, fun | n => n⟩
theorem Tryd.lays287 : Go.Proofs.Lays.n287 Tryd.prog Tryd.lays287_ren := {
  mixed := by kernel_rfl
  f287 := Tryd.func52.trans (congrArg some (by kernel_rfl))
  f321 := Tryd.func70.trans (congrArg some (by kernel_rfl))
  f322 := Tryd.func71.trans (congrArg some (by kernel_rfl))
  t0 := Tryd.underlying0
  a0 := Tryd.isAgg0
  z0 := Tryd.sizeOf0
  v0 := Tryd.zeroValue0
  t3 := Tryd.underlying3
  a3 := Tryd.isAgg3
  z3 := Tryd.sizeOf3
  v3 := Tryd.zeroValue3
  t4 := Tryd.underlying4
  a4 := Tryd.isAgg4
  z4 := Tryd.sizeOf4
  v4 := Tryd.zeroValue4
  t5 := Tryd.underlying5
  a5 := Tryd.isAgg5
  z5 := Tryd.sizeOf5
  v5 := Tryd.zeroValue5
  t9 := Tryd.underlying9
  a9 := Tryd.isAgg9
  z9 := Tryd.sizeOf9
  v9 := Tryd.zeroValue9
  t21 := Tryd.underlying21
  a21 := Tryd.isAgg21
  z21 := Tryd.sizeOf21
  v21 := Tryd.zeroValue21
  t37 := Tryd.underlying52
  a37 := Tryd.isAgg52
  z37 := Tryd.sizeOf52
  v37 := Tryd.zeroValue52
  t46 := Tryd.underlying87
  a46 := Tryd.isAgg87
  z46 := Tryd.sizeOf87
  v46 := Tryd.zeroValue87
  t53 := Tryd.underlying92
  a53 := Tryd.isAgg92
  z53 := Tryd.sizeOf92
  v53 := Tryd.zeroValue92
  t75 := Tryd.underlying41
  a75 := Tryd.isAgg41
  z75 := Tryd.sizeOf41
  v75 := Tryd.zeroValue41
  t167 := Tryd.underlying91
  a167 := Tryd.isAgg91
  z167 := Tryd.sizeOf91
  v167 := Tryd.zeroValue91 }
open Go.RowKit in
/-- internal/strconv.ParseUint(s, 10, 32), s NOT EMPTY: 'Lib.parseUintM 4294967295 0' OF ITS BYTES: the number; or (0, ErrSyntax); or (the greatest uint32, ErrRange). The world behind the call: the one new row that '[]byte(s)' lays. (LAID: no walk: one application.) -/
theorem Tryd.internal_strconv_ParseUint_10_b32 (t : ByteArray) (hne : t.size ≠ 0) (hmax : t.size ≤ 9223372036854775806) (w : World) :
    Calls Tryd.prog 52 #[.string t, .int .i64 10, .int .i64 32] w fun e w' => e = .returned (Lib.uintTupleM 91 4294967295 (Lib.parseUintM 4294967295 0 t.data.toList)) ∧ w' = Lib.bytesWorld w 5 t := Any.internal_strconv_ParseUint_10_b32 Tryd.lays287 t hne hmax w
def Tryd.laysC174_ren : Go.Shelf.Ren := ⟨fun | 174 => 34 | 247 => 42 | 245 => 43 | 287 => 52 | 279 => 53 | 280 => 54 | 281 => 55 | 282 => 56 | 321 => 70 | 322 => 71 | 316 => 72 | 171 => 30 | 205 => 33 | 243 => 36 | 246 => 44 | 283 => 57 | 284 => 58 | 285 => 59 | 286 => 60 | 129 => 74 | 317 => 73 | 318 => 75 | 319 => 76 | 320 => 77 | 337 => 87 | 338 => 88 | n => n, fun | 9 => 9 | 3 => 3 | 2 => 2 | 75 => 41 | 85 => 59 | 4 => 4 | 167 => 91 | 5 => 5 | 53 => 92 | 175 => 93 | 46 => 87 | 168 => 61 | 37 => 52 | 0 => 0 | 210 => 64 | 21 => 21 | 127 => 127 | 145 => 76 | 143 => 74 | 171 => 97 | 173 => 100 | 212 => 117 | 51 => 118 | 20 => 20 | 213 => 119 | 232 => 131 | 233 => 132 | 80 => 30 | n => n, fun | 15 => 0 | 16 => 1 | 17 => 2 | 18 => 3 | 19 => 4 | n => n⟩
theorem Tryd.laysC174 : Go.Proofs.LaysC.n174 Tryd.prog Tryd.laysC174_ren := {
  mixed := by kernel_rfl
  f129 := Tryd.func74.trans (congrArg some (by kernel_rfl))
  f171 := Tryd.func30.trans (congrArg some (by kernel_rfl))
  f174 := Tryd.func34.trans (congrArg some (by kernel_rfl))
  f205 := Tryd.func33.trans (congrArg some (by kernel_rfl))
  f243 := Tryd.func36.trans (congrArg some (by kernel_rfl))
  f245 := Tryd.func43.trans (congrArg some (by kernel_rfl))
  f246 := Tryd.func44.trans (congrArg some (by kernel_rfl))
  f247 := Tryd.func42.trans (congrArg some (by kernel_rfl))
  f279 := Tryd.func53.trans (congrArg some (by kernel_rfl))
  f280 := Tryd.func54.trans (congrArg some (by kernel_rfl))
  f281 := Tryd.func55.trans (congrArg some (by kernel_rfl))
  f282 := Tryd.func56.trans (congrArg some (by kernel_rfl))
  f283 := Tryd.func57.trans (congrArg some (by kernel_rfl))
  f284 := Tryd.func58.trans (congrArg some (by kernel_rfl))
  f285 := Tryd.func59.trans (congrArg some (by kernel_rfl))
  f286 := Tryd.func60.trans (congrArg some (by kernel_rfl))
  f287 := Tryd.func52.trans (congrArg some (by kernel_rfl))
  f316 := Tryd.func72.trans (congrArg some (by kernel_rfl))
  f317 := Tryd.func73.trans (congrArg some (by kernel_rfl))
  f318 := Tryd.func75.trans (congrArg some (by kernel_rfl))
  f319 := Tryd.func76.trans (congrArg some (by kernel_rfl))
  f320 := Tryd.func77.trans (congrArg some (by kernel_rfl))
  f321 := Tryd.func70.trans (congrArg some (by kernel_rfl))
  f322 := Tryd.func71.trans (congrArg some (by kernel_rfl))
  f337 := Tryd.func87.trans (congrArg some (by kernel_rfl))
  f338 := Tryd.func88.trans (congrArg some (by kernel_rfl))
  t0 := Tryd.underlying0
  a0 := Tryd.isAgg0
  z0 := Tryd.sizeOf0
  v0 := Tryd.zeroValue0
  t2 := Tryd.underlying2
  a2 := Tryd.isAgg2
  z2 := Tryd.sizeOf2
  v2 := Tryd.zeroValue2
  t3 := Tryd.underlying3
  a3 := Tryd.isAgg3
  z3 := Tryd.sizeOf3
  v3 := Tryd.zeroValue3
  t4 := Tryd.underlying4
  a4 := Tryd.isAgg4
  z4 := Tryd.sizeOf4
  v4 := Tryd.zeroValue4
  t5 := Tryd.underlying5
  a5 := Tryd.isAgg5
  z5 := Tryd.sizeOf5
  v5 := Tryd.zeroValue5
  t9 := Tryd.underlying9
  a9 := Tryd.isAgg9
  z9 := Tryd.sizeOf9
  v9 := Tryd.zeroValue9
  t20 := Tryd.underlying20
  a20 := Tryd.isAgg20
  z20 := Tryd.sizeOf20
  v20 := Tryd.zeroValue20
  t21 := Tryd.underlying21
  a21 := Tryd.isAgg21
  z21 := Tryd.sizeOf21
  v21 := Tryd.zeroValue21
  t37 := Tryd.underlying52
  a37 := Tryd.isAgg52
  z37 := Tryd.sizeOf52
  v37 := Tryd.zeroValue52
  t46 := Tryd.underlying87
  a46 := Tryd.isAgg87
  z46 := Tryd.sizeOf87
  v46 := Tryd.zeroValue87
  t51 := Tryd.underlying118
  a51 := Tryd.isAgg118
  z51 := Tryd.sizeOf118
  v51 := Tryd.zeroValue118
  t53 := Tryd.underlying92
  a53 := Tryd.isAgg92
  z53 := Tryd.sizeOf92
  v53 := Tryd.zeroValue92
  t75 := Tryd.underlying41
  a75 := Tryd.isAgg41
  z75 := Tryd.sizeOf41
  v75 := Tryd.zeroValue41
  t85 := Tryd.underlying59
  a85 := Tryd.isAgg59
  z85 := Tryd.sizeOf59
  v85 := Tryd.zeroValue59
  t127 := Tryd.underlying127
  a127 := Tryd.isAgg127
  z127 := Tryd.sizeOf127
  v127 := Tryd.zeroValue127
  t143 := Tryd.underlying74
  a143 := Tryd.isAgg74
  z143 := Tryd.sizeOf74
  v143 := Tryd.zeroValue74
  t145 := Tryd.underlying76
  a145 := Tryd.isAgg76
  z145 := Tryd.sizeOf76
  v145 := Tryd.zeroValue76
  t167 := Tryd.underlying91
  a167 := Tryd.isAgg91
  z167 := Tryd.sizeOf91
  v167 := Tryd.zeroValue91
  t168 := Tryd.underlying61
  a168 := Tryd.isAgg61
  z168 := Tryd.sizeOf61
  v168 := Tryd.zeroValue61
  t171 := Tryd.underlying97
  a171 := Tryd.isAgg97
  z171 := Tryd.sizeOf97
  v171 := Tryd.zeroValue97
  t173 := Tryd.underlying100
  a173 := Tryd.isAgg100
  z173 := Tryd.sizeOf100
  v173 := Tryd.zeroValue100
  t175 := Tryd.underlying93
  a175 := Tryd.isAgg93
  z175 := Tryd.sizeOf93
  v175 := Tryd.zeroValue93
  t210 := Tryd.underlying64
  a210 := Tryd.isAgg64
  z210 := Tryd.sizeOf64
  v210 := Tryd.zeroValue64
  t212 := Tryd.underlying117
  a212 := Tryd.isAgg117
  z212 := Tryd.sizeOf117
  v212 := Tryd.zeroValue117
  t213 := Tryd.underlying119
  a213 := Tryd.isAgg119
  z213 := Tryd.sizeOf119
  t232 := Tryd.underlying131
  a232 := Tryd.isAgg131
  z232 := Tryd.sizeOf131
  v232 := Tryd.zeroValue131
  t233 := Tryd.underlying132
  a233 := Tryd.isAgg132
  z233 := Tryd.sizeOf132
  v233 := Tryd.zeroValue132
  g15 := by kernel_rfl
  g16 := by kernel_rfl
  g17 := by kernel_rfl
  g18 := by kernel_rfl
  g19 := by kernel_rfl
  t80 := Tryd.underlying30
  a80 := Tryd.isAgg30
  z80 := Tryd.sizeOf30
  v80 := Tryd.zeroValue30
  i0 := by kernel_rfl
  i2 := by kernel_rfl
  i3 := by kernel_rfl
  i4 := by kernel_rfl
  i5 := by kernel_rfl
  i9 := by kernel_rfl
  i20 := by kernel_rfl
  i21 := by kernel_rfl
  i37 := by kernel_rfl
  i46 := by kernel_rfl
  i51 := by kernel_rfl
  i53 := by kernel_rfl
  i75 := by kernel_rfl
  i80 := by kernel_rfl
  i85 := by kernel_rfl
  i127 := by kernel_rfl
  i143 := by kernel_rfl
  i145 := by kernel_rfl
  i167 := by kernel_rfl
  i168 := by kernel_rfl
  i171 := by kernel_rfl
  i173 := by kernel_rfl
  i175 := by kernel_rfl
  i210 := by kernel_rfl
  i212 := by kernel_rfl
  i232 := by kernel_rfl
  i233 := by kernel_rfl
  m15 := by kernel_rfl
  m16 := by kernel_rfl
  m17 := by kernel_rfl
  m18 := by kernel_rfl
  m19 := by kernel_rfl
  c0 := by kernel_rfl
  c2 := by kernel_rfl
  c3 := by kernel_rfl
  c4 := by kernel_rfl
  c5 := by kernel_rfl
  c9 := by kernel_rfl
  c20 := by kernel_rfl
  c21 := by kernel_rfl
  c37 := by kernel_rfl
  c46 := by kernel_rfl
  c51 := by kernel_rfl
  c53 := by kernel_rfl
  c75 := by kernel_rfl
  c80 := by kernel_rfl
  c85 := by kernel_rfl
  c127 := by kernel_rfl
  c143 := by kernel_rfl
  c145 := by kernel_rfl
  c167 := by kernel_rfl
  c168 := by kernel_rfl
  c171 := by kernel_rfl
  c173 := by kernel_rfl
  c175 := by kernel_rfl
  c210 := by kernel_rfl
  c212 := by kernel_rfl
  c213 := by kernel_rfl
  c232 := by kernel_rfl
  c233 := by kernel_rfl }
open Go.RowKit in
/-- strconv.ParseInt(s, 10, 0), AT EVERY STRING THAT SPELLS AN int64 ('Lib.parseIntB 64 s.data.toList = .ok v'): v, AND NO ERROR. (LAID: no walk: one application.) -/
theorem Tryd.strconv_ParseInt_10_at0_ok (s : ByteArray) (hmax : s.size ≤ 9223372036854775806) (v : Int) (h : Lib.parseIntB 64 s.data.toList = .ok v) (w : World) :
    Calls Tryd.prog 34 #[.string s, .int .i64 10, .int .i64 0] w fun e w' => e = .returned (.tuple #[.int .i64 v, .nilIface]) ∧ (w' = w ∨ ∃ t, w' = Lib.bytesWorld w 5 t) := Any.strconv_ParseInt_10_at0_ok Tryd.laysC174 s hmax v h w
end Go.Proofs
