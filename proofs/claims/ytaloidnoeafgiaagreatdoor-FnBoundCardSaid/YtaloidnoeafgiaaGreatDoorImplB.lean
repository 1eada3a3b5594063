/- impl.Bound: what two ranges have in common. -/
import Derived.Test.YtaloidnoeafgiaaGreatDoorGlb2
namespace Go.Proofs.YtaloidnoeafgiaaGreatDoor
open Go.RowKit Go.Lib

/-- calculateGlbLub answers with a text -/
def BoundAs (s t : ByteArray) (P : ByteArray → Prop) : Prop := ∀ w, Tabs w → Calls Tryz.prog 44 #[.string s, .string t] w fun e w' => ∃ r : ByteArray, e = .returned (.tuple #[.string r, .nilIface]) ∧ P r ∧ Below w.heap.size w w'

set_option maxRecDepth 100000 in
theorem boundGuard_idle (p q : Addr) (w : World) :
    CallsD Tryz.prog 26 #[.pointer (some p), .pointer (some q)] .returning w fun e u' w' => e = .returned (.tuple #[]) ∧ u' = .returning ∧ w' = w := by
  refine callsD_of_wpS Tryz.func26 rfl fun c₀ cs hu => ?_
  apply wpS_seq
  apply wpS_region
  simp [wpOpsS, go_sem, recoverD, hu, Tryz.ntmps26, Exit.thenS]
  refine wpS_cond (t := false) (by simp [Act.eval, Array.replicate]) ?_
  simp only [Bool.false_eq_true, if_false]
  refine wpS_of_wp (wp_skip ?_)
  cases c₀
  simp_all [bodyPostS, results, Tryz.results26]

set_option maxRecDepth 100000 in
set_option maxHeartbeats 2000000 in
theorem glb_hands (s t : ByteArray) (P : ByteArray → Prop) (h : BoundAs s t P) (w : World) (hT : Tabs w) :
    Calls Tryz.prog 27 #[.string s, .string t] w fun e w' => ∃ r : ByteArray, e = .returned (.tuple #[.string r, .nilIface]) ∧ Hid (P r) ∧ Below w.heap.size w w' := by
  have H := Lib.hid (h w hT)
  clear h
  go_enter Tryz.func27, Tryz.ntmps27
  go_wp2_with fail
  refine H.out.mono ?_
  rintro e w2 ⟨r, rfl, hr, hb2⟩
  have Hr := Lib.hid hr
  clear hr H
  go_wp2_with fail
  go_ret2
  exact ⟨_, rfl, Hr, hb2⟩

set_option maxRecDepth 100000 in
set_option maxHeartbeats 2000000 in
theorem implBound (s t : ByteArray) (P : ByteArray → Prop) (h : BoundAs s t P) (w : World) (hT : Tabs w) :
    Calls Tryz.prog 10 #[.string s, .string t] w fun e w' => ∃ r : ByteArray, e = .returned (.tuple #[.string r, .bool true]) ∧ Hid (P r) ∧ Below w.heap.size w w' := by
  have Hr := Lib.hid (glb_hands s t P h)
  have Ht := Lib.hid hT
  have Hb0 : Hid (Below w.heap.size w ((w.alloc (.cells #[.string ⟨#[]⟩] 9)).alloc (.cells #[.bool false] 4))) := ((Below.refl _ _).alloc (Nat.le_refl _) _).alloc (by simp) _
  have hmf : ∀ (fn : Fn) (first cap : Array Value) (w : World), (Instr.makeFunc fn first cap).run Tryz.prog w = .ok (.func fn first cap) w := fun _ _ _ _ => rfl
  clear h hT
  go_enter_defers Tryz.func10, Tryz.ntmps10
  go_wp2_with fail
  refine (Hr.out _ (Ht.out.below Hb0.out)).mono ?_
  rintro e w2 ⟨r, rfl, hr, hb2⟩
  have Hb2 : Hid (Below w.heap.size w w2) := Hb0.out.trans (hb2.mono (by simp; omega))
  have r0 : w2.heap[w.heap.size]? = some (.cells #[.string ⟨#[]⟩] 9 (0, 0)) := by
    rw [hb2.block w.heap.size (by simp; omega), Below.heap_alloc _ _ _ (by simp)]; exact heap_alloc_new _ _
  have r1 : w2.heap[w.heap.size + 1]? = some (.cells #[.bool false] 4 (0, 0)) := by
    rw [hb2.block (w.heap.size + 1) (by simp)]
    have h := heap_alloc_new (w.alloc (.cells #[.string ⟨#[]⟩] 9)) (.cells #[.bool false] 4)
    simpa using h
  have c0 := row_cell (l := [.string ⟨#[]⟩]) r0 (j := 0) rfl
  have c1 := row_cell (l := [.bool false]) r1 (j := 0) rfl
  have f0 := row_free (l := [.string ⟨#[]⟩]) r0 0
  have f1 := row_free (l := [.bool false]) r1 0
  clear hb2 r0 r1
  go_wp2_with fail
  go_region
  go_wp2
  refine leaves_cons (f := 26) (args := #[.pointer (some ⟨w.heap.size, 0, none⟩), .pointer (some ⟨w.heap.size + 1, 0, none⟩)]) (by simp) (by simp [go_sem]) ?_
  refine (boundGuard_idle ⟨w.heap.size, 0, none⟩ ⟨w.heap.size + 1, 0, none⟩ _).mono ?_
  rintro e u' w'' ⟨rfl, rfl, rfl⟩
  simp [Leaves, settle, results, Tryz.results10, go_sem, c0, c1, f0, f1]
  exact ⟨hr, (((Hb2.out.setCell (Nat.le_refl _) _).setCell (Nat.le_refl _) _).setCell (Nat.le_succ _) _).drew⟩
end Go.Proofs.YtaloidnoeafgiaaGreatDoor
