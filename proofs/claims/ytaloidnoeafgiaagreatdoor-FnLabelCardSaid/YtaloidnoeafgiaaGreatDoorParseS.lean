/- impl.Parse at a text with fewer than three parts: no label. -/
import Derived.Test.YtaloidnoeafgiaaGreatDoorCtx
import Derived.Defers
import Derived.Recover
import Derived.Laws.Pointers
namespace Go.Proofs.YtaloidnoeafgiaaGreatDoor
open Go.RowKit Go.Lib

set_option maxRecDepth 100000 in
theorem parseGuard_idle (p q : Addr) (w : World) :
    CallsD Tryz.prog 33 #[.pointer (some p), .pointer (some q)] .returning w fun e u' w' => e = .returned (.tuple #[]) ∧ u' = .returning ∧ w' = w := by
  refine callsD_of_wpS Tryz.func33 rfl fun c₀ cs hu => ?_
  apply wpS_seq
  apply wpS_region
  simp [wpOpsS, go_sem, recoverD, hu, Tryz.ntmps33, Exit.thenS]
  refine wpS_cond (t := false) (by simp [Act.eval, Array.replicate]) ?_
  simp only [Bool.false_eq_true, if_false]
  refine wpS_of_wp (wp_skip ?_)
  cases c₀
  simp_all [bodyPostS, results, Tryz.results33]

/-- a text that is no label -/
def NoLabel (s : ByteArray) : Prop := ∀ w, Calls Tryz.prog 51 #[.string s] w fun e w' => ∃ v : Value, e = .returned (.tuple #[v, errLabel]) ∧ Below w.heap.size w w'

set_option maxRecDepth 100000 in
set_option maxHeartbeats 2000000 in
theorem parse_short (s : ByteArray) (h : NoLabel s) (w : World) :
    Calls Tryz.prog 15 #[.string s] w fun e w' => e = .returned (.tuple #[.slice none 0 0, .bool false]) ∧ Below w.heap.size w w' := by
  have Hr := Lib.hid h
  have Hb0 : Hid (Below w.heap.size w ((w.alloc (.cells #[.slice none 0 0] 40)).alloc (.cells #[.bool false] 4))) := ((Below.refl _ _).alloc (Nat.le_refl _) _).alloc (by simp) _
  have hmf : ∀ (fn : Fn) (first cap : Array Value) (w : World), (Instr.makeFunc fn first cap).run Tryz.prog w = .ok (.func fn first cap) w := fun _ _ _ _ => rfl
  clear h
  go_enter_defers Tryz.func15, Tryz.ntmps15
  go_wp2_with (go_at_call 34; go_in)
  refine (Hr.out _).mono ?_
  rintro e w2 ⟨v, rfl, hb2⟩
  have Hb2 : Hid (Below w.heap.size w w2) := Hb0.out.trans (hb2.mono (by simp; omega))
  have r0 : w2.heap[w.heap.size]? = some (.cells #[.slice none 0 0] 40 (0, 0)) := by
    rw [hb2.block w.heap.size (by simp; omega), Below.heap_alloc _ _ _ (by simp)]; exact heap_alloc_new _ _
  have r1 : w2.heap[w.heap.size + 1]? = some (.cells #[.bool false] 4 (0, 0)) := by
    rw [hb2.block (w.heap.size + 1) (by simp)]
    have h := heap_alloc_new (w.alloc (.cells #[.slice none 0 0] 40)) (.cells #[.bool false] 4)
    simpa using h
  have c0 := row_cell (l := [.slice none 0 0]) r0 (j := 0) rfl
  have c1 := row_cell (l := [.bool false]) r1 (j := 0) rfl
  have f0 := row_free (l := [.slice none 0 0]) r0 0
  have f1 := row_free (l := [.bool false]) r1 0
  clear hb2 r0 r1
  go_wp2_with fail
  refine leaves_cons (f := 33) (args := #[.pointer (some ⟨w.heap.size, 0, none⟩), .pointer (some ⟨w.heap.size + 1, 0, none⟩)]) (by simp) (by simp [go_sem]) ?_
  refine (parseGuard_idle ⟨w.heap.size, 0, none⟩ ⟨w.heap.size + 1, 0, none⟩ _).mono ?_
  rintro e u' w'' ⟨rfl, rfl, rfl⟩
  simp [Leaves, settle, results, Tryz.results15, go_sem, c0, c1, f0, f1]
  exact (Hb2.out.setCell (Nat.le_refl _) _).setCell (Nat.le_succ _) _
end Go.Proofs.YtaloidnoeafgiaaGreatDoor
