/-
  DERIVED: THE SHELF's CONTRACTS AT THIS DUMP, IN PLAIN WORDS (tools/lay-plain.mjs out of 'TryzShelf.lean', which tools/lay-shelf.mjs wrote): THE SAME DECLARATIONS UNDER THE SAME NAMES: 'import', 'namespace', 'open', 'def', 'theorem' AND NOTHING ELSE: no command of the shelf's: FOR A HAND-IN. Each laying: the table of numbers ('.._ren') and one theorem, a field a fact of the dump's own or the kernel's comparison; each contract: ONE APPLICATION.
-/
import Derived.Shelf.Small.Bits
import Derived.Shelf.Strconv.Itoa0
import Derived.Shelf.Strconv.Itoa1
import Derived.Shelf.LaysM
import Derived.Shelf.Strconv.Itoa2
import Derived.Shelf.Strconv.Itoa3
import Derived.Shelf.Strconv.ParseIntEmpty
import Derived.Shelf.Strconv.Clone
import Derived.Shelf.Strconv.SyntaxError
import Derived.Shelf.LaysC
import Derived.Shelf.Strconv.ToError
import Derived.Shelf.Strconv.Lower
import Derived.Shelf.Strconv.ParseUint10
import Derived.Shelf.Strconv.ParseUint10Empty
import Derived.Shelf.Strconv.ParseUint10Any
import Derived.Shelf.Strconv.ParseInt10
import Derived.Shelf.Strconv.RangeError
import Derived.Shelf.Strconv.ToErrorRange
import Derived.Shelf.Strconv.ParseUintEmpty
import Derived.Shelf.Strconv.ParseUint10b64
import Derived.Shelf.Strconv.ParseUint10b32
import Derived.Shelf.Strconv.ParseUint10b16
import Derived.Shelf.Strconv.ParseUint10b8
import Derived.Shelf.Strconv.ParseUint10At
import Derived.Shelf.Strconv.ParseInt10At64
import Derived.Shelf.Strconv.ParseInt10At32
import Derived.Shelf.Strconv.ParseInt10At16
import Derived.Shelf.Strconv.ParseInt10At8
import Derived.Shelf.Strconv.ParseInt10All
import Derived.Shelf.Strconv.ParseIntPublic10
import Derived.Shelf.Strconv.ErrVarParseInt
import Derived.Ground.Names2Prog
import Derived.Shelf.Slices.Clone
import Derived.Ground.SlgnProg
import Derived.Shelf.SlicesE.Clone
import Derived.Ground.SlgmProg
import Derived.Shelf.SortM.Plain
import Derived.Shelf.SortM.SortNone
import Derived.Test.YtaloidnoeafgiaaGreatDoorProg
namespace Go.Proofs
open Go.Shelf
def Tryz.laysSlM6_f35_ren : Go.Shelf.Ren := ⟨fun | 6 => 35 | 8 => 53 | 9 => 52 | 19 => 75 | 20 => 76 | 21 => 66 | 22 => 67 | 23 => 68 | 24 => 69 | 25 => 70 | 26 => 71 | 27 => 72 | 28 => 73 | 29 => 74 | 36 => 94 | 31 => 95 | 32 => 96 | 37 => 97 | 38 => 98 | 39 => 99 | 41 => 112 | n => n, fun | 27 => 49 | 29 => 9 | 3 => 3 | 32 => 88 | 26 => 49 | 0 => 0 | 44 => 118 | 46 => 120 | 4 => 4 | 36 => 112 | 35 => 111 | 41 => 55 | 5 => 5 | 9 => 9 | 53 => 138 | 57 => 141 | 63 => 156 | 64 => 157 | n => n, fun | n => n⟩
theorem Tryz.laysSlM6_f35 : Go.Proofs.SlLaysM.n6 Tryz.prog Tryz.laysSlM6_f35_ren := {
  mixed := by kernel_rfl
  f6 := ⟨Tryz.f35.name, by decide, Tryz.func35.trans (congrArg some (by kernel_rfl))⟩
  f8 := Tryz.func53.trans (congrArg some (by kernel_rfl))
  f9 := ⟨Tryz.f52.name, by decide, Tryz.func52.trans (congrArg some (by kernel_rfl))⟩
  f19 := Tryz.func75.trans (congrArg some (by kernel_rfl))
  f20 := Tryz.func76.trans (congrArg some (by kernel_rfl))
  f21 := ⟨Tryz.f66.name, by decide, Tryz.func66.trans (congrArg some (by kernel_rfl))⟩
  f22 := ⟨Tryz.f67.name, by decide, Tryz.func67.trans (congrArg some (by kernel_rfl))⟩
  f23 := ⟨Tryz.f68.name, by decide, Tryz.func68.trans (congrArg some (by kernel_rfl))⟩
  f24 := ⟨Tryz.f69.name, by decide, Tryz.func69.trans (congrArg some (by kernel_rfl))⟩
  f25 := ⟨Tryz.f70.name, by decide, Tryz.func70.trans (congrArg some (by kernel_rfl))⟩
  f26 := ⟨Tryz.f71.name, by decide, Tryz.func71.trans (congrArg some (by kernel_rfl))⟩
  f27 := ⟨Tryz.f72.name, by decide, Tryz.func72.trans (congrArg some (by kernel_rfl))⟩
  f28 := ⟨Tryz.f73.name, by decide, Tryz.func73.trans (congrArg some (by kernel_rfl))⟩
  f29 := ⟨Tryz.f74.name, by decide, Tryz.func74.trans (congrArg some (by kernel_rfl))⟩
  f31 := Tryz.func95.trans (congrArg some (by kernel_rfl))
  f32 := Tryz.func96.trans (congrArg some (by kernel_rfl))
  f36 := ⟨Tryz.f94.name, by decide, Tryz.func94.trans (congrArg some (by kernel_rfl))⟩
  f37 := ⟨Tryz.f97.name, by decide, Tryz.func97.trans (congrArg some (by kernel_rfl))⟩
  f38 := ⟨Tryz.f98.name, by decide, Tryz.func98.trans (congrArg some (by kernel_rfl))⟩
  f39 := ⟨Tryz.f99.name, by decide, Tryz.func99.trans (congrArg some (by kernel_rfl))⟩
  f41 := ⟨Tryz.f112.name, by decide, Tryz.func112.trans (congrArg some (by kernel_rfl))⟩
  t0 := Tryz.underlying0
  a0 := Tryz.isAgg0
  z0 := Tryz.sizeOf0
  v0 := Tryz.zeroValue0
  t3 := Tryz.underlying3
  a3 := Tryz.isAgg3
  z3 := Tryz.sizeOf3
  v3 := Tryz.zeroValue3
  t4 := Tryz.underlying4
  a4 := Tryz.isAgg4
  z4 := Tryz.sizeOf4
  v4 := Tryz.zeroValue4
  t5 := Tryz.underlying5
  a5 := Tryz.isAgg5
  z5 := Tryz.sizeOf5
  v5 := Tryz.zeroValue5
  t9 := Tryz.underlying9
  a9 := Tryz.isAgg9
  z9 := Tryz.sizeOf9
  v9 := Tryz.zeroValue9
  t26 := Tryz.underlying49
  a26 := Tryz.isAgg49
  z26 := Tryz.sizeOf49
  v26 := Tryz.zeroValue49
  t27 := Tryz.underlying49
  a27 := Tryz.isAgg49
  z27 := Tryz.sizeOf49
  v27 := Tryz.zeroValue49
  t29 := Tryz.underlying9
  a29 := Tryz.isAgg9
  z29 := Tryz.sizeOf9
  v29 := Tryz.zeroValue9
  t32 := Tryz.underlying88
  a32 := Tryz.isAgg88
  z32 := Tryz.sizeOf88
  v32 := Tryz.zeroValue88
  t35 := Tryz.underlying111
  a35 := Tryz.isAgg111
  z35 := Tryz.sizeOf111
  v35 := Tryz.zeroValue111
  t36 := Tryz.underlying112
  a36 := Tryz.isAgg112
  z36 := Tryz.sizeOf112
  v36 := Tryz.zeroValue112
  t41 := Tryz.underlying55
  a41 := Tryz.isAgg55
  z41 := Tryz.sizeOf55
  v41 := Tryz.zeroValue55
  t44 := Tryz.underlying118
  a44 := Tryz.isAgg118
  z44 := Tryz.sizeOf118
  v44 := Tryz.zeroValue118
  t46 := Tryz.underlying120
  a46 := Tryz.isAgg120
  z46 := Tryz.sizeOf120
  v46 := Tryz.zeroValue120
  t53 := Tryz.underlying138
  a53 := Tryz.isAgg138
  z53 := Tryz.sizeOf138
  v53 := Tryz.zeroValue138
  t57 := Tryz.underlying141
  a57 := Tryz.isAgg141
  z57 := Tryz.sizeOf141
  v57 := Tryz.zeroValue141
  t63 := Tryz.underlying156
  a63 := Tryz.isAgg156
  z63 := Tryz.sizeOf156
  v63 := Tryz.zeroValue156
  t64 := Tryz.underlying157
  a64 := Tryz.isAgg157
  z64 := Tryz.sizeOf157
  v64 := Tryz.zeroValue157 }
open Go.Sort Go.RowKit in
theorem Tryz.slices_Sort_string (blk off cap : Nat) (ss : List (List UInt8)) (w : World) (hH : Holds encStr w blk off ss.toArray) (hblk : blk < w.heap.size) (hsz : ss.length < 4611686018427387904) :
    Calls Tryz.prog 35 #[.slice (some ⟨blk, off, none⟩) ss.length cap] w fun e w' =>
      e = .returned (.tuple #[]) ∧ ∃ n os, w' = grow (putRow encStr (Sort.ahead w n) blk off (ss.mergeSort fun x y => decide (x ≤ y)).toArray) os := AnyM.slices_Sort_string Tryz.laysSlM6_f35 blk off cap ss w hH hblk hsz
open Go.RowKit Go.Sort in
/-- .. and plain. (LAID AT THE INSTANCE 'slices.Sort[[]string,string]': no walk: one application.) -/
theorem Tryz.slices_Sort_string_none (p : Option Addr) (cap : Nat) (w : World) :
    Calls Tryz.prog 35 #[.slice p 0 cap] w fun e w' => e = .returned (.tuple #[]) ∧ w' = w := AnyM.slices_Sort_string_none Tryz.laysSlM6_f35 p cap w
end Go.Proofs
