/-
  DERIVED: THE SHELF's CONTRACTS AT THIS DUMP, IN PLAIN WORDS (tools/lay-plain.mjs out of 'TryzShelf.lean', which tools/lay-shelf.mjs wrote): THE SAME DECLARATIONS UNDER THE SAME NAMES: 'import', 'namespace', 'open', 'def', 'theorem' AND NOTHING ELSE: no command of the shelf's: FOR A HAND-IN. Each laying: the table of numbers ('.._ren') and one theorem, a field a fact of the dump's own or the kernel's comparison; each contract: ONE APPLICATION.
-/
import Derived.Shelf.Strings.Builder1
import Derived.Shelf.Strings.Builder2
import Derived.Shelf.Strings.OnBuilder
import Derived.Shelf.Small.Utf8
import Derived.Shelf.Small.Bits
import Derived.Shelf.Strconv.Itoa0
import Derived.Shelf.Strconv.Itoa1
import Derived.Shelf.LaysM
import Derived.Shelf.Strconv.Itoa2
import Derived.Shelf.Strconv.Itoa3
import Derived.Shelf.Strconv.ParseIntEmpty
import Derived.Shelf.Strconv.Clone
import Derived.Shelf.Strconv.SyntaxError
import Derived.Shelf.LaysC
import Derived.Shelf.Strconv.ToError
import Derived.Shelf.Strconv.Lower
import Derived.Shelf.Strconv.ParseUint10
import Derived.Shelf.Strconv.ParseUint10Empty
import Derived.Shelf.Strconv.ParseUint10Any
import Derived.Shelf.Strconv.ParseInt10
import Derived.Shelf.Strconv.RangeError
import Derived.Shelf.Strconv.ToErrorRange
import Derived.Shelf.Strconv.ParseUintEmpty
import Derived.Shelf.Strconv.ParseUint10b64
import Derived.Shelf.Strconv.ParseUint10b32
import Derived.Shelf.Strconv.ParseUint10b16
import Derived.Shelf.Strconv.ParseUint10b8
import Derived.Shelf.Strconv.ParseUint10At
import Derived.Shelf.Strconv.ParseInt10At64
import Derived.Shelf.Strconv.ParseInt10At32
import Derived.Shelf.Strconv.ParseInt10At16
import Derived.Shelf.Strconv.ParseInt10At8
import Derived.Shelf.Strconv.ParseInt10All
import Derived.Shelf.Strconv.ParseIntPublic10
import Derived.Shelf.Strconv.ErrVarParseInt
import Derived.Shelf.Unicode.Latin
import Derived.Shelf.Unicode.DecodeSlow
import Derived.Shelf.Unicode.DecodeAny
import Derived.Shelf.Unicode.CaseLookup
import Derived.Shelf.Unicode.CaseConvert
import Derived.Shelf.Unicode.CaseTo
import Derived.Shelf.Unicode.CaseLaid
import Derived.Ground.Names2Prog
import Derived.Shelf.Slices.Clone
import Derived.Ground.SlgnProg
import Derived.Shelf.SlicesE.Clone
import Derived.Test.YtdmggcbbfljciaaGreatDoorProg
namespace Go.Proofs
open Go.Shelf
def Tryz.lays159_ren : Go.Shelf.Ren := ⟨fun | 159 => 42 | 165 => 57 | 166 => 58 | 167 => 59 | 169 => 60 | 230 => 61 | 204 => 62 | 240 => 86 | 241 => 87 | 197 => 88 | 118 => 89 | 168 => 90 | 270 => 91 | 262 => 92 | 276 => 112 | 277 => 113 | 260 => 114 | 242 => 115 | 313 => 116 | 278 => 141 | 274 => 142 | 275 => 143 | n => n, fun | 9 => 9 | 4 => 4 | 3 => 3 | 5 => 5 | 72 => 111 | 0 => 0 | 76 => 81 | 75 => 60 | 107 => 115 | 70 => 109 | 20 => 20 | 37 => 91 | 127 => 154 | 21 => 21 | 105 => 155 | 164 => 181 | 162 => 187 | 203 => 185 | 119 => 215 | 46 => 98 | 139 => 218 | 138 => 217 | 51 => 136 | 160 => 219 | 208 => 237 | 206 => 235 | 80 => 31 | n => n, fun | 13 => 0 | 3 => 2 | 4 => 3 | n => n⟩
theorem Tryz.lays159 : Go.Proofs.Lays.n159 Tryz.prog Tryz.lays159_ren := {
  mixed := by kernel_rfl
  f118 := Tryz.func89.trans (congrArg some (by kernel_rfl))
  f159 := Tryz.func42.trans (congrArg some (by kernel_rfl))
  f165 := Tryz.func57.trans (congrArg some (by kernel_rfl))
  f166 := Tryz.func58.trans (congrArg some (by kernel_rfl))
  f167 := Tryz.func59.trans (congrArg some (by kernel_rfl))
  f168 := Tryz.func90.trans (congrArg some (by kernel_rfl))
  f169 := Tryz.func60.trans (congrArg some (by kernel_rfl))
  f197 := Tryz.func88.trans (congrArg some (by kernel_rfl))
  f204 := Tryz.func62.trans (congrArg some (by kernel_rfl))
  f230 := Tryz.func61.trans (congrArg some (by kernel_rfl))
  f240 := Tryz.func86.trans (congrArg some (by kernel_rfl))
  f241 := Tryz.func87.trans (congrArg some (by kernel_rfl))
  f242 := Tryz.func115.trans (congrArg some (by kernel_rfl))
  f260 := Tryz.func114.trans (congrArg some (by kernel_rfl))
  f262 := Tryz.func92.trans (congrArg some (by kernel_rfl))
  f270 := Tryz.func91.trans (congrArg some (by kernel_rfl))
  f274 := Tryz.func142.trans (congrArg some (by kernel_rfl))
  f275 := Tryz.func143.trans (congrArg some (by kernel_rfl))
  f276 := Tryz.func112.trans (congrArg some (by kernel_rfl))
  f277 := Tryz.func113.trans (congrArg some (by kernel_rfl))
  f278 := Tryz.func141.trans (congrArg some (by kernel_rfl))
  f313 := Tryz.func116.trans (congrArg some (by kernel_rfl))
  t0 := Tryz.underlying0
  a0 := Tryz.isAgg0
  z0 := Tryz.sizeOf0
  v0 := Tryz.zeroValue0
  t3 := Tryz.underlying3
  a3 := Tryz.isAgg3
  z3 := Tryz.sizeOf3
  v3 := Tryz.zeroValue3
  t4 := Tryz.underlying4
  a4 := Tryz.isAgg4
  z4 := Tryz.sizeOf4
  v4 := Tryz.zeroValue4
  t5 := Tryz.underlying5
  a5 := Tryz.isAgg5
  z5 := Tryz.sizeOf5
  v5 := Tryz.zeroValue5
  t9 := Tryz.underlying9
  a9 := Tryz.isAgg9
  z9 := Tryz.sizeOf9
  v9 := Tryz.zeroValue9
  t20 := Tryz.underlying20
  a20 := Tryz.isAgg20
  z20 := Tryz.sizeOf20
  v20 := Tryz.zeroValue20
  t21 := Tryz.underlying21
  a21 := Tryz.isAgg21
  z21 := Tryz.sizeOf21
  v21 := Tryz.zeroValue21
  t37 := Tryz.underlying91
  a37 := Tryz.isAgg91
  z37 := Tryz.sizeOf91
  v37 := Tryz.zeroValue91
  t46 := Tryz.underlying98
  a46 := Tryz.isAgg98
  z46 := Tryz.sizeOf98
  v46 := Tryz.zeroValue98
  t51 := Tryz.underlying136
  a51 := Tryz.isAgg136
  z51 := Tryz.sizeOf136
  v51 := Tryz.zeroValue136
  t70 := Tryz.underlying109
  a70 := Tryz.isAgg109
  z70 := Tryz.sizeOf109
  v70 := Tryz.zeroValue109
  t72 := Tryz.underlying111
  a72 := Tryz.isAgg111
  z72 := Tryz.sizeOf111
  v72 := Tryz.zeroValue111
  t75 := Tryz.underlying60
  a75 := Tryz.isAgg60
  z75 := Tryz.sizeOf60
  v75 := Tryz.zeroValue60
  t76 := Tryz.underlying81
  a76 := Tryz.isAgg81
  z76 := Tryz.sizeOf81
  v76 := Tryz.zeroValue81
  t105 := Tryz.underlying155
  a105 := Tryz.isAgg155
  z105 := Tryz.sizeOf155
  v105 := Tryz.zeroValue155
  t107 := Tryz.underlying115
  a107 := Tryz.isAgg115
  z107 := Tryz.sizeOf115
  v107 := Tryz.zeroValue115
  t119 := Tryz.underlying215
  a119 := Tryz.isAgg215
  z119 := Tryz.sizeOf215
  t127 := Tryz.underlying154
  a127 := Tryz.isAgg154
  z127 := Tryz.sizeOf154
  v127 := Tryz.zeroValue154
  t138 := Tryz.underlying217
  a138 := Tryz.isAgg217
  z138 := Tryz.sizeOf217
  v138 := Tryz.zeroValue217
  t139 := Tryz.underlying218
  a139 := Tryz.isAgg218
  z139 := Tryz.sizeOf218
  v139 := Tryz.zeroValue218
  t160 := Tryz.underlying219
  a160 := Tryz.isAgg219
  z160 := Tryz.sizeOf219
  v160 := Tryz.zeroValue219
  t162 := Tryz.underlying187
  a162 := Tryz.isAgg187
  z162 := Tryz.sizeOf187
  v162 := Tryz.zeroValue187
  t164 := Tryz.underlying181
  a164 := Tryz.isAgg181
  z164 := Tryz.sizeOf181
  v164 := Tryz.zeroValue181
  t203 := Tryz.underlying185
  a203 := Tryz.isAgg185
  z203 := Tryz.sizeOf185
  v203 := Tryz.zeroValue185
  t206 := Tryz.underlying235
  a206 := Tryz.isAgg235
  z206 := Tryz.sizeOf235
  v206 := Tryz.zeroValue235
  t208 := Tryz.underlying237
  a208 := Tryz.isAgg237
  z208 := Tryz.sizeOf237
  v208 := Tryz.zeroValue237
  g3 := by kernel_rfl
  g4 := by kernel_rfl
  g13 := by kernel_rfl }
theorem Tryz.Builder_Extra_159 : Builder.Extra Tryz.prog Tryz.lays159_ren := {
  sizeBuilder := by kernel_rfl
  liesBuilder := by kernel_rfl
  t5 := Tryz.underlying5
  a5 := Tryz.isAgg5
  z5 := Tryz.sizeOf5
  v5 := Tryz.zeroValue5
  infoByte := by kernel_rfl
  cellsByte := by kernel_rfl
  sizeByte := by kernel_rfl
  neB5 := by decide }
open Go.RowKit in
/-- strings.ToLower: "ToLower returns s with all Unicode letters mapped to their lower case.": ON ASCII TEXT OF AT MOST 2^47 BYTES. Below the heap's end the world is as it was: where a letter turns, the call makes a builder and its buffer. (LAID: no walk: one application.) -/
theorem Tryz.strings_ToLower_ascii (s : ByteArray) (w : World) (hs : s.size ≤ 140737488355328) (hascii : ∀ (j : Nat) (b : UInt8), s.data.toList[j]? = some b → b.toNat < 128) :
    Calls Tryz.prog 42 #[.string s] w fun e w' => e = .returned (.string ⟨(Lib.toLowerA s.data.toList).toArray⟩) ∧ Below w.heap.size w w' := Any.strings_ToLower_ascii Tryz.lays159 Tryz.Builder_Extra_159 s w hs hascii
def Tryz.lays156_ren : Go.Shelf.Ren := ⟨fun | 156 => 55 | 165 => 57 | 166 => 58 | 169 => 60 | 240 => 86 | 241 => 87 | 276 => 112 | 277 => 113 | n => n, fun | 31 => 45 | 9 => 9 | 3 => 3 | 4 => 4 | 0 => 0 | 20 => 20 | 72 => 111 | 76 => 81 | 70 => 109 | 37 => 91 | 75 => 60 | 127 => 154 | 164 => 181 | 5 => 5 | 80 => 31 | n => n, fun | n => n⟩
theorem Tryz.lays156 : Go.Proofs.Lays.n156 Tryz.prog Tryz.lays156_ren := {
  mixed := by kernel_rfl
  f156 := Tryz.func55.trans (congrArg some (by kernel_rfl))
  f165 := Tryz.func57.trans (congrArg some (by kernel_rfl))
  f166 := Tryz.func58.trans (congrArg some (by kernel_rfl))
  f169 := Tryz.func60.trans (congrArg some (by kernel_rfl))
  f240 := Tryz.func86.trans (congrArg some (by kernel_rfl))
  f241 := Tryz.func87.trans (congrArg some (by kernel_rfl))
  f276 := Tryz.func112.trans (congrArg some (by kernel_rfl))
  f277 := Tryz.func113.trans (congrArg some (by kernel_rfl))
  t0 := Tryz.underlying0
  a0 := Tryz.isAgg0
  z0 := Tryz.sizeOf0
  v0 := Tryz.zeroValue0
  t3 := Tryz.underlying3
  a3 := Tryz.isAgg3
  z3 := Tryz.sizeOf3
  v3 := Tryz.zeroValue3
  t4 := Tryz.underlying4
  a4 := Tryz.isAgg4
  z4 := Tryz.sizeOf4
  v4 := Tryz.zeroValue4
  t9 := Tryz.underlying9
  a9 := Tryz.isAgg9
  z9 := Tryz.sizeOf9
  v9 := Tryz.zeroValue9
  t20 := Tryz.underlying20
  a20 := Tryz.isAgg20
  z20 := Tryz.sizeOf20
  v20 := Tryz.zeroValue20
  t31 := Tryz.underlying45
  a31 := Tryz.isAgg45
  z31 := Tryz.sizeOf45
  v31 := Tryz.zeroValue45
  t37 := Tryz.underlying91
  a37 := Tryz.isAgg91
  z37 := Tryz.sizeOf91
  v37 := Tryz.zeroValue91
  t70 := Tryz.underlying109
  a70 := Tryz.isAgg109
  z70 := Tryz.sizeOf109
  v70 := Tryz.zeroValue109
  t72 := Tryz.underlying111
  a72 := Tryz.isAgg111
  z72 := Tryz.sizeOf111
  v72 := Tryz.zeroValue111
  t75 := Tryz.underlying60
  a75 := Tryz.isAgg60
  z75 := Tryz.sizeOf60
  v75 := Tryz.zeroValue60
  t76 := Tryz.underlying81
  a76 := Tryz.isAgg81
  z76 := Tryz.sizeOf81
  v76 := Tryz.zeroValue81
  t127 := Tryz.underlying154
  a127 := Tryz.isAgg154
  z127 := Tryz.sizeOf154
  v127 := Tryz.zeroValue154
  t164 := Tryz.underlying181
  a164 := Tryz.isAgg181
  z164 := Tryz.sizeOf181
  v164 := Tryz.zeroValue181 }
theorem Tryz.Builder_Extra_156 : Builder.Extra Tryz.prog Tryz.lays156_ren := {
  sizeBuilder := by kernel_rfl
  liesBuilder := by kernel_rfl
  t5 := Tryz.underlying5
  a5 := Tryz.isAgg5
  z5 := Tryz.sizeOf5
  v5 := Tryz.zeroValue5
  infoByte := by kernel_rfl
  cellsByte := by kernel_rfl
  sizeByte := by kernel_rfl
  neB5 := by decide }
open Go.RowKit in
/-- strings.Join: "Join concatenates the elements of its first argument to create a single string. The separator string sep is placed between elements in the resulting string.": HOWEVER MANY ELEMENTS. Below the heap's end the world is as it was. (LAID: no walk: one application.) -/
theorem Tryz.strings_Join (bk o c : Nat) (xs : List ByteArray) (sep : ByteArray) (w : World) (hcells : ∀ (j : Nat) x, xs[j]? = some x → w.cell? ⟨bk, o + j, none⟩ = some (.string x)) (hbk : bk < w.heap.size) (hN : xs.length ≤ 140737488355328) (hcap : xs.length ≤ c) (hlen : (Lib.join (xs.map (·.data.toList)) sep.data.toList).length ≤ 140737488355328) :
    Calls Tryz.prog 55 #[.slice (some ⟨bk, o, none⟩) xs.length c, .string sep] w fun e w' => e = .returned (.string ⟨(Lib.join (xs.map (·.data.toList)) sep.data.toList).toArray⟩) ∧ Below w.heap.size w w' := Any.strings_Join Tryz.lays156 Tryz.Builder_Extra_156 bk o c xs sep w hcells hbk hN hcap hlen
end Go.Proofs
