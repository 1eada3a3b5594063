/- impl.Range: the range of a text, and that no panic came. -/
import Derived.Test.YtdmggcbbfljciaaGreatDoorZz
import Derived.Defers
import Derived.Recover
import Derived.Laws.Pointers
namespace Go.Proofs.YtdmggcbbfljciaaGreatDoor
open Go.RowKit

set_option maxRecDepth 100000 in
theorem rangeGuard_idle (p q : Addr) (w : World) :
    CallsD Tryz.prog 36 #[.pointer (some p), .pointer (some q)] .returning w fun e u' w' => e = .returned (.tuple #[]) ∧ u' = .returning ∧ w' = w := by
  refine callsD_of_wpS Tryz.func36 rfl fun c₀ cs hu => ?_
  apply wpS_seq
  apply wpS_region
  simp [wpOpsS, go_sem, recoverD, hu, Tryz.ntmps36, Exit.thenS]
  refine wpS_cond (t := false) (by simp [Act.eval, Array.replicate]) ?_
  simp only [Bool.false_eq_true, if_false]
  refine wpS_of_wp (wp_skip ?_)
  cases c₀
  simp_all [bodyPostS, results, Tryz.results36]

/-- the text of a range of levels -/
def RgOut (r : ByteArray) (a c : Lvd) (l k : List Nat) : Prop := ∃ q : Bool, EqIs q a c ∧ r.data.toList = rgT q a c l k

set_option maxRecDepth 100000 in
set_option maxHeartbeats 2000000 in
theorem implRange (s : ByteArray) (a c : Lvd) (l k : List Nat) (hr : ReadsAs s a c) (ha : Mem a l) (hc : Mem c k) (hsa : a.sens ≤ 9999) (hsc : c.sens ≤ 9999) (w : World) (hT : Tabs w) :
    Calls Tryz.prog 23 #[.string s] w fun e w' => ∃ r : ByteArray, e = .returned (.tuple #[.string r, .bool true]) ∧ RgOut r a c l k ∧ Below w.heap.size w w' := by
  have Hr := Lib.hid (fun w hT => zzrange s a c l k hr ha hc hsa hsc w hT)
  have Ht := Lib.hid hT
  have Hb0 : Hid (Below w.heap.size w ((w.alloc (.cells #[.string ⟨#[]⟩] 9)).alloc (.cells #[.bool false] 4))) := ((Below.refl _ _).alloc (Nat.le_refl _) _).alloc (by simp) _
  have hmf : ∀ (fn : Fn) (first cap : Array Value) (w : World), (Instr.makeFunc fn first cap).run Tryz.prog w = .ok (.func fn first cap) w := fun _ _ _ _ => rfl
  clear hr ha hc hT
  go_enter_defers Tryz.func23, Tryz.ntmps23
  go_wp2_with fail
  refine (Hr.out _ (Ht.out.below Hb0.out)).mono ?_
  rintro e w2 ⟨r, q, rfl, hq, hr, hb2⟩
  have Hq : Hid (RgOut r a c l k) := ⟨q, hq, hr⟩
  have Hb2 : Hid (Below w.heap.size w w2) := Hb0.out.trans (hb2.mono (by simp; omega))
  have r0 : w2.heap[w.heap.size]? = some (.cells #[.string ⟨#[]⟩] 9 (0, 0)) := by
    rw [hb2.block w.heap.size (by simp; omega), Below.heap_alloc _ _ _ (by simp)]; exact heap_alloc_new _ _
  have r1 : w2.heap[w.heap.size + 1]? = some (.cells #[.bool false] 4 (0, 0)) := by
    rw [hb2.block (w.heap.size + 1) (by simp)]
    have h := heap_alloc_new (w.alloc (.cells #[.string ⟨#[]⟩] 9)) (.cells #[.bool false] 4)
    simpa using h
  have c0 := row_cell (l := [.string ⟨#[]⟩]) r0 (j := 0) rfl
  have c1 := row_cell (l := [.bool false]) r1 (j := 0) rfl
  have f0 := row_free (l := [.string ⟨#[]⟩]) r0 0
  have f1 := row_free (l := [.bool false]) r1 0
  clear hq hr hb2 r0 r1
  go_wp2_with fail
  go_region
  go_wp2
  refine leaves_cons (f := 36) (args := #[.pointer (some ⟨w.heap.size, 0, none⟩), .pointer (some ⟨w.heap.size + 1, 0, none⟩)]) (by simp) (by simp [go_sem]) ?_
  refine (rangeGuard_idle ⟨w.heap.size, 0, none⟩ ⟨w.heap.size + 1, 0, none⟩ _).mono ?_
  rintro e u' w'' ⟨rfl, rfl, rfl⟩
  simp [Leaves, settle, results, Tryz.results23, go_sem, c0, c1, f0, f1]
  exact ⟨Hq.out, (((Hb2.out.setCell (Nat.le_refl _) _).setCell (Nat.le_refl _) _).setCell (Nat.le_succ _) _).drew⟩
end Go.Proofs.YtdmggcbbfljciaaGreatDoor
