/-
  DERIVED: THE SHELF's CONTRACTS AT THIS DUMP, IN PLAIN WORDS (tools/lay-plain.mjs out of 'TryzShelf.lean', which tools/lay-shelf.mjs wrote): THE SAME DECLARATIONS UNDER THE SAME NAMES: 'import', 'namespace', 'open', 'def', 'theorem' AND NOTHING ELSE: no command of the shelf's: FOR A HAND-IN. Each laying: the table of numbers ('.._ren') and one theorem, a field a fact of the dump's own or the kernel's comparison; each contract: ONE APPLICATION.
-/
import Derived.Shelf.Strings.Builder1
import Derived.Shelf.Strings.Builder2
import Derived.Shelf.Strings.OnBuilder
import Derived.Shelf.Small.Utf8
import Derived.Shelf.Small.Bits
import Derived.Shelf.Strconv.Itoa0
import Derived.Shelf.Strconv.Itoa1
import Derived.Shelf.LaysM
import Derived.Shelf.Strconv.Itoa2
import Derived.Shelf.Strconv.Itoa3
import Derived.Shelf.Strconv.ParseIntEmpty
import Derived.Shelf.Strconv.Clone
import Derived.Shelf.Strconv.SyntaxError
import Derived.Shelf.LaysC
import Derived.Shelf.Strconv.ToError
import Derived.Shelf.Strconv.Lower
import Derived.Shelf.Strconv.ParseUint10
import Derived.Shelf.Strconv.ParseUint10Empty
import Derived.Shelf.Strconv.ParseUint10Any
import Derived.Shelf.Strconv.ParseInt10
import Derived.Shelf.Strconv.RangeError
import Derived.Shelf.Strconv.ToErrorRange
import Derived.Shelf.Strconv.ParseUintEmpty
import Derived.Shelf.Strconv.ParseUint10b64
import Derived.Shelf.Strconv.ParseUint10b32
import Derived.Shelf.Strconv.ParseUint10b16
import Derived.Shelf.Strconv.ParseUint10b8
import Derived.Shelf.Strconv.ParseUint10At
import Derived.Shelf.Strconv.ParseInt10At64
import Derived.Shelf.Strconv.ParseInt10At32
import Derived.Shelf.Strconv.ParseInt10At16
import Derived.Shelf.Strconv.ParseInt10At8
import Derived.Shelf.Strconv.ParseInt10All
import Derived.Shelf.Strconv.ParseIntPublic10
import Derived.Shelf.Strconv.ErrVarParseInt
import Derived.Shelf.Unicode.Latin
import Derived.Shelf.Unicode.DecodeSlow
import Derived.Shelf.Unicode.DecodeAny
import Derived.Shelf.Unicode.CaseLookup
import Derived.Shelf.Unicode.CaseConvert
import Derived.Shelf.Unicode.CaseTo
import Derived.Shelf.Unicode.CaseLaid
import Derived.Ground.Names2Prog
import Derived.Shelf.Slices.Clone
import Derived.Ground.SlgnProg
import Derived.Shelf.SlicesE.Clone
import Derived.Ground.SlgmProg
import Derived.Shelf.SortM.Plain
import Derived.Shelf.SortM.SortNone
import Derived.Test.YtdmggcbbfljciaaGreatDoorProg
namespace Go.Proofs
open Go.Shelf
def Tryz.laysSlM6_f35_ren : Go.Shelf.Ren := ⟨fun | 6 => 35 | 8 => 50 | 9 => 49 | 19 => 77 | 20 => 78 | 21 => 68 | 22 => 69 | 23 => 70 | 24 => 71 | 25 => 72 | 26 => 73 | 27 => 74 | 28 => 75 | 29 => 76 | 36 => 97 | 31 => 98 | 32 => 99 | 37 => 100 | 38 => 101 | 39 => 102 | 41 => 127 | n => n, fun | 27 => 45 | 29 => 9 | 3 => 3 | 32 => 98 | 26 => 45 | 0 => 0 | 44 => 136 | 46 => 119 | 4 => 4 | 36 => 130 | 35 => 129 | 41 => 56 | 5 => 5 | 9 => 9 | 53 => 164 | 57 => 168 | 63 => 200 | 64 => 201 | n => n, fun | n => n⟩
theorem Tryz.laysSlM6_f35 : Go.Proofs.SlLaysM.n6 Tryz.prog Tryz.laysSlM6_f35_ren := {
  mixed := by kernel_rfl
  f6 := ⟨Tryz.f35.name, by decide, Tryz.func35.trans (congrArg some (by kernel_rfl))⟩
  f8 := Tryz.func50.trans (congrArg some (by kernel_rfl))
  f9 := ⟨Tryz.f49.name, by decide, Tryz.func49.trans (congrArg some (by kernel_rfl))⟩
  f19 := Tryz.func77.trans (congrArg some (by kernel_rfl))
  f20 := Tryz.func78.trans (congrArg some (by kernel_rfl))
  f21 := ⟨Tryz.f68.name, by decide, Tryz.func68.trans (congrArg some (by kernel_rfl))⟩
  f22 := ⟨Tryz.f69.name, by decide, Tryz.func69.trans (congrArg some (by kernel_rfl))⟩
  f23 := ⟨Tryz.f70.name, by decide, Tryz.func70.trans (congrArg some (by kernel_rfl))⟩
  f24 := ⟨Tryz.f71.name, by decide, Tryz.func71.trans (congrArg some (by kernel_rfl))⟩
  f25 := ⟨Tryz.f72.name, by decide, Tryz.func72.trans (congrArg some (by kernel_rfl))⟩
  f26 := ⟨Tryz.f73.name, by decide, Tryz.func73.trans (congrArg some (by kernel_rfl))⟩
  f27 := ⟨Tryz.f74.name, by decide, Tryz.func74.trans (congrArg some (by kernel_rfl))⟩
  f28 := ⟨Tryz.f75.name, by decide, Tryz.func75.trans (congrArg some (by kernel_rfl))⟩
  f29 := ⟨Tryz.f76.name, by decide, Tryz.func76.trans (congrArg some (by kernel_rfl))⟩
  f31 := Tryz.func98.trans (congrArg some (by kernel_rfl))
  f32 := Tryz.func99.trans (congrArg some (by kernel_rfl))
  f36 := ⟨Tryz.f97.name, by decide, Tryz.func97.trans (congrArg some (by kernel_rfl))⟩
  f37 := ⟨Tryz.f100.name, by decide, Tryz.func100.trans (congrArg some (by kernel_rfl))⟩
  f38 := ⟨Tryz.f101.name, by decide, Tryz.func101.trans (congrArg some (by kernel_rfl))⟩
  f39 := ⟨Tryz.f102.name, by decide, Tryz.func102.trans (congrArg some (by kernel_rfl))⟩
  f41 := ⟨Tryz.f127.name, by decide, Tryz.func127.trans (congrArg some (by kernel_rfl))⟩
  t0 := Tryz.underlying0
  a0 := Tryz.isAgg0
  z0 := Tryz.sizeOf0
  v0 := Tryz.zeroValue0
  t3 := Tryz.underlying3
  a3 := Tryz.isAgg3
  z3 := Tryz.sizeOf3
  v3 := Tryz.zeroValue3
  t4 := Tryz.underlying4
  a4 := Tryz.isAgg4
  z4 := Tryz.sizeOf4
  v4 := Tryz.zeroValue4
  t5 := Tryz.underlying5
  a5 := Tryz.isAgg5
  z5 := Tryz.sizeOf5
  v5 := Tryz.zeroValue5
  t9 := Tryz.underlying9
  a9 := Tryz.isAgg9
  z9 := Tryz.sizeOf9
  v9 := Tryz.zeroValue9
  t26 := Tryz.underlying45
  a26 := Tryz.isAgg45
  z26 := Tryz.sizeOf45
  v26 := Tryz.zeroValue45
  t27 := Tryz.underlying45
  a27 := Tryz.isAgg45
  z27 := Tryz.sizeOf45
  v27 := Tryz.zeroValue45
  t29 := Tryz.underlying9
  a29 := Tryz.isAgg9
  z29 := Tryz.sizeOf9
  v29 := Tryz.zeroValue9
  t32 := Tryz.underlying98
  a32 := Tryz.isAgg98
  z32 := Tryz.sizeOf98
  v32 := Tryz.zeroValue98
  t35 := Tryz.underlying129
  a35 := Tryz.isAgg129
  z35 := Tryz.sizeOf129
  v35 := Tryz.zeroValue129
  t36 := Tryz.underlying130
  a36 := Tryz.isAgg130
  z36 := Tryz.sizeOf130
  v36 := Tryz.zeroValue130
  t41 := Tryz.underlying56
  a41 := Tryz.isAgg56
  z41 := Tryz.sizeOf56
  v41 := Tryz.zeroValue56
  t44 := Tryz.underlying136
  a44 := Tryz.isAgg136
  z44 := Tryz.sizeOf136
  v44 := Tryz.zeroValue136
  t46 := Tryz.underlying119
  a46 := Tryz.isAgg119
  z46 := Tryz.sizeOf119
  v46 := Tryz.zeroValue119
  t53 := Tryz.underlying164
  a53 := Tryz.isAgg164
  z53 := Tryz.sizeOf164
  v53 := Tryz.zeroValue164
  t57 := Tryz.underlying168
  a57 := Tryz.isAgg168
  z57 := Tryz.sizeOf168
  v57 := Tryz.zeroValue168
  t63 := Tryz.underlying200
  a63 := Tryz.isAgg200
  z63 := Tryz.sizeOf200
  v63 := Tryz.zeroValue200
  t64 := Tryz.underlying201
  a64 := Tryz.isAgg201
  z64 := Tryz.sizeOf201
  v64 := Tryz.zeroValue201 }
open Go.Sort Go.RowKit in
theorem Tryz.slices_Sort_string (blk off cap : Nat) (ss : List (List UInt8)) (w : World) (hH : Holds encStr w blk off ss.toArray) (hblk : blk < w.heap.size) (hsz : ss.length < 4611686018427387904) :
    Calls Tryz.prog 35 #[.slice (some ⟨blk, off, none⟩) ss.length cap] w fun e w' =>
      e = .returned (.tuple #[]) ∧ ∃ n os, w' = grow (putRow encStr (Sort.ahead w n) blk off (ss.mergeSort fun x y => decide (x ≤ y)).toArray) os := AnyM.slices_Sort_string Tryz.laysSlM6_f35 blk off cap ss w hH hblk hsz
open Go.RowKit Go.Sort in
/-- .. and plain. (LAID AT THE INSTANCE 'slices.Sort[[]string,string]': no walk: one application.) -/
theorem Tryz.slices_Sort_string_none (p : Option Addr) (cap : Nat) (w : World) :
    Calls Tryz.prog 35 #[.slice p 0 cap] w fun e w' => e = .returned (.tuple #[]) ∧ w' = w := AnyM.slices_Sort_string_none Tryz.laysSlM6_f35 p cap w
end Go.Proofs
