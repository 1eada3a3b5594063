/- math/big's (nat).make: its three ways. -/
import Derived.Test.YtdmggcbbfljciaaGreatDoorProg
import Derived.WalkKit
import Derived.Tactics
import Derived.KernelRfl
import Derived.Lib.Hide
import Derived.Laws.MakeOwn
import Derived.Laws.OwnMore
import Derived.Deep.DeepFit
namespace Go.Proofs.YtdmggcbbfljciaaGreatDoor
open Go.RowKit

theorem info207 : (Tryz.prog.info? 207).map (fun i => (i.zero, i.size, i.bytes)) = some (some (.int .u64 0), 1, 8) := by kernel_rfl

theorem make_reuse (ao : Option Addr) (l cap n : Nat) (w : World) (hn : n ≤ cap) (hc : cap ≤ 9223372036854775807) :
    Calls Tryz.prog 156 #[.slice ao l cap, .int .i64 n] w fun e w' => e = .returned (.slice ao n cap) ∧ w' = w := by
  have hdec : decide ((n : Int) ≤ (cap : Int)) = true := by simp; omega
  go_enter Tryz.func156, Tryz.ntmps156
  go_wp2
  go_ret
  exact ⟨rfl, rfl⟩

theorem make_one (ao : Option Addr) (w : World) :
    Calls Tryz.prog 156 #[.slice ao 0 0, .int .i64 1] w fun e w' => e = .returned (.slice (some ⟨w.heap.size, 0, none⟩) 1 1) ∧ w' = w.alloc (.cells #[.int .u64 0] 207) := by
  obtain ⟨i0, hi, hz0, hz1, hz2⟩ := info_parts info207
  have hmk := run_make (P := Tryz.prog) w 175 207 i0 (.int .u64 0) Tryz.underlying175 hi hz0 .i64 .i64 1 1 (by omega) (by omega) (by rw [hz2]; decide) (by decide)
  rw [hz1] at hmk
  have e1 : madeCells (Value.int .u64 0).cells ((1 : Int).toNat * 1) = #[Value.int .u64 0] := by
    apply Array.toList_inj.1
    show (madeCells #[Value.int .u64 0] 1).toList = _
    rw [toList_madeCells_one]; rfl
  rw [e1] at hmk
  clear e1 hz0 hz1 hz2 hi
  go_enter Tryz.func156, Tryz.ntmps156
  go_wp2
  go_ret
  exact ⟨rfl, rfl⟩

set_option maxRecDepth 100000 in
theorem make_more (ao : Option Addr) (l cap n : Nat) (w : World) (hn : cap < n) (h1 : 1 < n) (hb : n ≤ 1000000) :
    Calls Tryz.prog 156 #[.slice ao l cap, .int .i64 n] w fun e w' => e = .returned (.slice (some ⟨w.heap.size, 0, none⟩) n (n + 4)) ∧ w' = w.alloc (.cells (madeCells #[.int .u64 0] (n + 4)) 207) := by
  obtain ⟨i0, hi, hz0, hz1, hz2⟩ := info_parts info207
  have hmk := run_make (P := Tryz.prog) w 175 207 i0 (.int .u64 0) Tryz.underlying175 hi hz0 .i64 .i64 n ((n : Int) + 4) (by omega) (by omega) (by rw [hz2]; omega) (by omega)
  rw [hz1] at hmk
  have e1 : ((n : Int) + 4).toNat * 1 = n + 4 := by omega
  have e2 : (n : Int).toNat = n := by omega
  have e3 : ((n : Int) + 4).toNat = n + 4 := by omega
  rw [e1, e2, e3] at hmk
  clear e1 e2 e3 hz0 hz1 hz2 hi
  have hdec : decide ((n : Int) ≤ (cap : Int)) = false := by simp; omega
  have hne : ((n : Int) == 1) = false := by simp; omega
  go_enter Tryz.func156, Tryz.ntmps156
  go_wp2
  go_ret
  exact ⟨rfl, rfl⟩
end Go.Proofs.YtdmggcbbfljciaaGreatDoor
