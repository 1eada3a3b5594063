/- a range of ports whose end lies ahead of its beginning: impl.PortRange, ParsePortSpec, impl.Spec. -/
import Derived.Test.YtdmggcbbfljciaaGreatDoorSplitP
import Derived.Defers
import Derived.Recover
import Derived.Laws.Pointers
namespace Go.Proofs.YtdmggcbbfljciaaGreatDoor
open Go.RowKit Go.Lib

set_option maxRecDepth 100000 in
set_option maxHeartbeats 2000000 in
theorem rangeToInt_back (s : ByteArray) (a b : Nat) (hs : s.data.toList = decDigits a ++ 45 :: decDigits b) (ha : b < a) (hb : a ≤ 65535) (w : World) :
    Calls Tryz.prog 30 #[.string s] w fun e w' => ∃ p : Nat, e = .returned (.tuple #[.int .i64 0, .int .i64 0, .iface 106 (.pointer (some ⟨p, 0, none⟩))]) ∧ Below w.heap.size w w' := by
  have hne := str_some s (by rw [hs]; simp)
  have hpr := Lib.hid (portRange_back s a b hs ha hb)
  clear hs
  go_enter Tryz.func30, Tryz.ntmps30
  go_wp2_with fail
  refine (hpr.out _).mono ?_
  rintro e w2 ⟨p, rfl, hb2⟩
  go_wp2
  go_ret3
  exact ⟨p, rfl, hb2⟩

set_option maxRecDepth 100000 in
set_option maxHeartbeats 2000000 in
theorem portRangeImpl_back (s : ByteArray) (a b : Nat) (hs : s.data.toList = decDigits a ++ 45 :: decDigits b) (ha : b < a) (hb : a ≤ 65535) (w : World) :
    Calls Tryz.prog 15 #[.string s] w fun e w' => e = .returned (.tuple #[.int .i64 0, .int .i64 0, .bool false]) ∧ Below w.heap.size w w' := by
  have hpr := Lib.hid (rangeToInt_back s a b hs ha hb)
  clear hs
  go_enter Tryz.func15, Tryz.ntmps15
  go_wp2_with fail
  refine (hpr.out _).mono ?_
  rintro e w2 ⟨p, rfl, hb2⟩
  go_wp2
  go_quiet (fail)
  go_wp2
  go_ret3
  exact ⟨rfl, below_drewN hb2 _⟩

/-- ParsePortSpec answers with an error -/
def NoSpec (s : ByteArray) : Prop := ∀ w, Tabs w → Calls Tryz.prog 26 #[.string s] w fun e w' => ∃ (te : TypeId) (pe : Value), e = .returned (.tuple #[.slice none 0 0, .iface te pe]) ∧ Below w.heap.size w w'

set_option maxRecDepth 100000 in
set_option maxHeartbeats 4000000 in
theorem portSpec_back (s : ByteArray) (a b : Nat) (hs : s.data.toList = decDigits a ++ 45 :: decDigits b ++ [47, 116, 99, 112]) (ha : b < a) (hb : a ≤ 65535) : NoSpec s := by
  intro w hT
  have l1 := dec_len a
  have l2 := dec_len b
  have hsz : s.size ≤ 300000 := by rw [Lib.size_eq, hs]; simp; omega
  have h58 : ∀ n, (58 : UInt8) ∉ decDigits n := fun n => CL.dec_no n 58 (CL.not_dg 58 (by omega))
  have hno : (58 : UInt8) ∉ s.data.toList := by
    rw [hs]
    intro e
    rcases List.mem_append.1 e with e | e
    · rcases List.mem_append.1 e with e | e
      · exact h58 a e
      · rcases List.mem_cons.1 e with e | e
        · cases e
        · exact h58 b e
    · revert e; decide
  have hsl : (47 : UInt8) ∉ decDigits a ++ 45 :: decDigits b := by
    intro e
    rcases List.mem_append.1 e with e | e
    · exact no_slash a e
    · rcases List.mem_cons.1 e with e | e
      · cases e
      · exact no_slash b e
  have Hs1 := Lib.hid (splitParts_one s hno (by omega))
  have Hs2 := Lib.hid (splitProto s (tx [116, 99, 112]) (decDigits a ++ 45 :: decDigits b) hs hsl (by simp) (by simp [tx]) (by omega))
  have Hs3 := Lib.hid (toLower_proto (tx [116, 99, 112]) (Or.inl rfl))
  have Hs4 := Lib.hid (validateProto_ok (tx [116, 99, 112]) (Or.inl rfl))
  clear hs hno hsl h58
  go_enter Tryz.func26, Tryz.ntmps26
  go_wp2_with fail
  refine (Hs1.out _).mono ?_
  rintro e w2 ⟨rfl, hb2⟩
  go_wp2_with fail
  refine (Hs2.out _).mono ?_
  rintro e w3 ⟨r, rfl, hr, hb3⟩
  have hne := str_some r (by rw [hr.out]; simp)
  have hrs : r.size ≤ 300000 := by rw [Lib.size_eq, hr.out]; simp; omega
  have Hp := Lib.hid (portRange_back r a b hr.out ha hb)
  have HB : Hid (Below w.heap.size w w3) := hb2.trans (hb3.mono hb2.size)
  clear hb2 hb3 hr
  go_wp2_with fail
  refine (Hs3.out _).mono ?_
  rintro e w4 ⟨rfl, hb4⟩
  go_wp2_with fail
  refine (Hs4.out _).mono ?_
  rintro e w5 ⟨rfl, hb5⟩
  have HB : Hid (Below w.heap.size w w5) := (HB.out.trans (hb4.mono HB.out.size)).trans (hb5.mono (Nat.le_trans HB.out.size hb4.size))
  clear hb4 hb5
  go_wp2_with fail
  refine (Hp.out _).mono ?_
  rintro e w6 ⟨p, rfl, hb6⟩
  go_wp2_with fail
  refine (errorsNew _ _).mono ?_
  rintro e w7 ⟨p2, rfl, hb7⟩
  have HB : Hid (Below w.heap.size w w7) := (HB.out.trans (hb6.mono HB.out.size)).trans (hb7.mono (Nat.le_trans HB.out.size hb6.size))
  go_wp2_with fail
  go_ret2
  exact ⟨_, _, rfl, HB.out⟩

set_option maxRecDepth 100000 in
theorem specGuard_idle (p q : Addr) (w : World) :
    CallsD Tryz.prog 25 #[.pointer (some p), .pointer (some q)] .returning w fun e u' w' => e = .returned (.tuple #[]) ∧ u' = .returning ∧ w' = w := by
  refine callsD_of_wpS Tryz.func25 rfl fun c₀ cs hu => ?_
  apply wpS_seq
  apply wpS_region
  simp [wpOpsS, go_sem, recoverD, hu, Tryz.ntmps25, Exit.thenS]
  refine wpS_cond (t := false) (by simp [Act.eval, Array.replicate]) ?_
  simp only [Bool.false_eq_true, if_false]
  refine wpS_of_wp (wp_skip ?_)
  cases c₀
  simp_all [bodyPostS, results, Tryz.results25]

set_option maxRecDepth 100000 in
set_option maxHeartbeats 2000000 in
theorem implSpec_none (s : ByteArray) (h : NoSpec s) (w : World) (hT : Tabs w) :
    Calls Tryz.prog 10 #[.string s] w fun e w' => e = .returned (.tuple #[.slice none 0 0, .bool false]) ∧ Below w.heap.size w w' := by
  have Hr := Lib.hid h
  have Ht := Lib.hid hT
  have Hb0 : Hid (Below w.heap.size w ((w.alloc (.cells #[.slice none 0 0] 28)).alloc (.cells #[.bool false] 4))) := ((Below.refl _ _).alloc (Nat.le_refl _) _).alloc (by simp) _
  have hmf : ∀ (fn : Fn) (first cap : Array Value) (w : World), (Instr.makeFunc fn first cap).run Tryz.prog w = .ok (.func fn first cap) w := fun _ _ _ _ => rfl
  clear h hT
  go_enter_defers Tryz.func10, Tryz.ntmps10
  go_wp2_with fail
  refine (Hr.out _ (Ht.out.below Hb0.out)).mono ?_
  rintro e w2 ⟨te, pe, rfl, hb2⟩
  have Hb2 : Hid (Below w.heap.size w w2) := Hb0.out.trans (hb2.mono (by simp; omega))
  have r0 : w2.heap[w.heap.size]? = some (.cells #[.slice none 0 0] 28 (0, 0)) := by
    rw [hb2.block w.heap.size (by simp; omega), Below.heap_alloc _ _ _ (by simp)]; exact heap_alloc_new _ _
  have r1 : w2.heap[w.heap.size + 1]? = some (.cells #[.bool false] 4 (0, 0)) := by
    rw [hb2.block (w.heap.size + 1) (by simp)]
    have h := heap_alloc_new (w.alloc (.cells #[.slice none 0 0] 28)) (.cells #[.bool false] 4)
    simpa using h
  have c0 := row_cell (l := [.slice none 0 0]) r0 (j := 0) rfl
  have c1 := row_cell (l := [.bool false]) r1 (j := 0) rfl
  have f0 := row_free (l := [.slice none 0 0]) r0 0
  have f1 := row_free (l := [.bool false]) r1 0
  clear hb2 r0 r1
  go_wp2_with fail
  refine leaves_cons (f := 25) (args := #[.pointer (some ⟨w.heap.size, 0, none⟩), .pointer (some ⟨w.heap.size + 1, 0, none⟩)]) (by simp) (by simp [go_sem]) ?_
  refine (specGuard_idle ⟨w.heap.size, 0, none⟩ ⟨w.heap.size + 1, 0, none⟩ _).mono ?_
  rintro e u' w'' ⟨rfl, rfl, rfl⟩
  simp [Leaves, settle, results, Tryz.results10, go_sem, c0, c1, f0, f1]
  exact ((Hb2.out.setCell (Nat.le_refl _) _).setCell (Nat.le_succ _) _)

end Go.Proofs.YtdmggcbbfljciaaGreatDoor
