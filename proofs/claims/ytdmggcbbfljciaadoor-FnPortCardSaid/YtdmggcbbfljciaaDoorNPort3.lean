/- impl.New; spec.Ports: zzFits7, Right, Text. -/
import Derived.Test.YtdmggcbbfljciaaDoorNPort2
import Derived.Test.YtdmggcbbfljciaaDoorTold
namespace Go.Proofs.YtdmggcbbfljciaaDoor
open Go.RowKit Go.Lib

set_option maxRecDepth 100000 in
theorem newGuard_idle (p q : Addr) (w : World) :
    CallsD Tryd.prog 19 #[.pointer (some p), .pointer (some q)] .returning w fun e u' w' => e = .returned (.tuple #[]) ∧ u' = .returning ∧ w' = w := by
  refine callsD_of_wpS Tryd.func19 rfl fun c₀ cs hu => ?_
  apply wpS_seq
  apply wpS_region
  simp [wpOpsS, go_sem, recoverD, hu, Tryd.ntmps19, Exit.thenS]
  refine wpS_cond (t := false) (by simp [Act.eval, Array.replicate]) ?_
  simp only [Bool.false_eq_true, if_false]
  refine wpS_of_wp (wp_skip ?_)
  cases c₀
  simp_all [bodyPostS, results, Tryd.results19]

set_option maxRecDepth 100000 in
set_option maxHeartbeats 2000000 in
theorem implNew (s proto : ByteArray) (a b : Nat) (hs : s.data.toList = numT a b) (ha : a ≤ b) (hb : b ≤ 65535) (hl : proto.size ≤ 1000000) (w : World) (hT : Tabs w) :
    Calls Tryd.prog 12 #[.string proto, .string s] w fun e w' => ∃ r : ByteArray, e = .returned (.tuple #[.string r, .bool true]) ∧ Hid (r.data.toList = numT a b ++ 47 :: proto.data.toList) ∧ Below w.heap.size w w' := by
  have Hr := Lib.hid (fun w hT => newPort s proto a b hs ha hb hl w hT)
  have Ht := Lib.hid hT
  have Hb0 : Hid (Below w.heap.size w ((w.alloc (.cells #[.string ⟨#[]⟩] 9)).alloc (.cells #[.bool false] 4))) := ((Below.refl _ _).alloc (Nat.le_refl _) _).alloc (by simp) _
  have hmf : ∀ (fn : Fn) (first cap : Array Value) (w : World), (Instr.makeFunc fn first cap).run Tryd.prog w = .ok (.func fn first cap) w := fun _ _ _ _ => rfl
  clear hs hT
  go_enter_defers Tryd.func12, Tryd.ntmps12
  go_wp2_with fail
  refine (Hr.out _ (Ht.out.below Hb0.out)).mono ?_
  rintro e w2 ⟨r, rfl, hr, hb2⟩
  have Hb2 : Hid (Below w.heap.size w w2) := Hb0.out.trans (hb2.mono (by simp; omega))
  have r0 : w2.heap[w.heap.size]? = some (.cells #[.string ⟨#[]⟩] 9 (0, 0)) := by
    rw [hb2.block w.heap.size (by simp; omega), Below.heap_alloc _ _ _ (by simp)]; exact heap_alloc_new _ _
  have r1 : w2.heap[w.heap.size + 1]? = some (.cells #[.bool false] 4 (0, 0)) := by
    rw [hb2.block (w.heap.size + 1) (by simp)]
    have h := heap_alloc_new (w.alloc (.cells #[.string ⟨#[]⟩] 9)) (.cells #[.bool false] 4)
    simpa using h
  have c0 := row_cell (l := [.string ⟨#[]⟩]) r0 (j := 0) rfl
  have c1 := row_cell (l := [.bool false]) r1 (j := 0) rfl
  have f0 := row_free (l := [.string ⟨#[]⟩]) r0 0
  have f1 := row_free (l := [.bool false]) r1 0
  clear hb2 r0 r1
  go_wp2_with fail
  go_region
  go_wp2
  refine leaves_cons (f := 19) (args := #[.pointer (some ⟨w.heap.size, 0, none⟩), .pointer (some ⟨w.heap.size + 1, 0, none⟩)]) (by simp) (by simp [go_sem]) ?_
  refine (newGuard_idle ⟨w.heap.size, 0, none⟩ ⟨w.heap.size + 1, 0, none⟩ _).mono ?_
  rintro e u' w'' ⟨rfl, rfl, rfl⟩
  simp [Leaves, settle, results, Tryd.results12, go_sem, c0, c1, f0, f1]
  exact ⟨hr, ((Hb2.out.setCell (Nat.le_refl _) _).setCell (Nat.le_succ _) _).drew⟩

theorem fits7 (a b : Int) (p : ByteArray) (w : World) :
    Calls Tryd.prog 8 #[.agg #[.int .i64 a, .int .i64 b, .string p]] w fun e w' => Told e (p.size ≤ 2147483647) ∧ Below w.heap.size w w' := by
  by_cases h : p.size ≤ 2147483647
  · have h1 : decide ((p.size : Int) > 2147483647) = false := by simp; omega
    go_enter Tryd.func8, Tryd.ntmps8
    go_wp2
    go_ret
    exact ⟨Told.t h, (Below.refl _ _).alloc (Nat.le_refl _) _⟩
  · have h1 : decide ((p.size : Int) > 2147483647) = true := by simp; omega
    go_enter Tryd.func8, Tryd.ntmps8
    go_wp2
    go_ret
    exact ⟨Told.f h, (Below.refl _ _).alloc (Nat.le_refl _) _⟩

/-- a protocol's name -/
def ProtoL (l : List UInt8) : Prop := l = [116, 99, 112] ∨ l = [117, 100, 112] ∨ l = [115, 99, 116, 112]
def RightP (a b : Int) (p : ByteArray) : Prop := 1 ≤ a ∧ a ≤ b ∧ b ≤ 65535 ∧ ProtoL p.data.toList

theorem lit_eq (p : ByteArray) (l : List UInt8) : (p.toList == l) = decide (p.data.toList = l) := by
  rw [ByteArray.toList_eq, Bool.eq_iff_iff]; simp

set_option maxRecDepth 100000 in
set_option maxHeartbeats 2000000 in
theorem right_any (a b : Int) (p : ByteArray) (w : World) :
    Calls Tryd.prog 9 #[.agg #[.int .i64 a, .int .i64 b, .string p]] w fun e w' => Told e (RightP a b p) ∧ Below w.heap.size w w' := by
  have H0 : Hid (Below w.heap.size w (w.alloc (.cells #[.int .i64 a, .int .i64 b, .string p] 28))) := (Below.refl _ _).alloc (Nat.le_refl _) _
  have e1 := lit_eq p [116, 99, 112]
  have e2 := lit_eq p [117, 100, 112]
  have e3 := lit_eq p [115, 99, 116, 112]
  by_cases h1 : 1 ≤ a
  · have k1 : decide (a ≥ 1) = true := by simp; omega
    by_cases h2 : a ≤ b
    · have k2 : decide (a ≤ b) = true := by simp; omega
      by_cases h3 : b ≤ 65535
      · have k3 : decide (b ≤ 65535) = true := by simp; omega
        by_cases q0 : p.data.toList = [116, 99, 112]
        · rw [decide_eq_true q0] at e1
          have H : Hid (RightP a b p) := ⟨h1, h2, h3, Or.inl q0⟩
          clear h1 h2 h3 q0
          go_enter Tryd.func9, Tryd.ntmps9
          go_wp2
          go_ret
          exact ⟨Told.t H.out, H0.out⟩
        · rw [decide_eq_false q0] at e1
          by_cases q1 : p.data.toList = [117, 100, 112]
          · rw [decide_eq_true q1] at e2
            have H : Hid (RightP a b p) := ⟨h1, h2, h3, Or.inr (Or.inl q1)⟩
            clear h1 h2 h3 q0 q1
            go_enter Tryd.func9, Tryd.ntmps9
            go_wp2
            go_ret
            exact ⟨Told.t H.out, H0.out⟩
          · rw [decide_eq_false q1] at e2
            by_cases q2 : p.data.toList = [115, 99, 116, 112]
            · rw [decide_eq_true q2] at e3
              have H : Hid (RightP a b p) := ⟨h1, h2, h3, Or.inr (Or.inr q2)⟩
              clear h1 h2 h3 q0 q1 q2
              go_enter Tryd.func9, Tryd.ntmps9
              go_wp2
              go_ret
              exact ⟨Told.t H.out, H0.out⟩
            · rw [decide_eq_false q2] at e3
              have H : Hid (¬ RightP a b p) := fun e => by rcases e.2.2.2 with e | e | e; exact q0 e; exact q1 e; exact q2 e
              clear h1 h2 h3 q0 q1 q2
              go_enter Tryd.func9, Tryd.ntmps9
              go_wp2
              go_ret
              exact ⟨Told.f H.out, H0.out⟩
      · have k3 : decide (b ≤ 65535) = false := by simp; omega
        have H : Hid (¬ RightP a b p) := fun e => h3 e.2.2.1
        clear h1 h2 h3 e1 e2 e3
        go_enter Tryd.func9, Tryd.ntmps9
        go_wp2
        go_ret
        exact ⟨Told.f H.out, H0.out⟩
    · have k2 : decide (a ≤ b) = false := by simp; omega
      have H : Hid (¬ RightP a b p) := fun e => h2 e.2.1
      clear h1 h2 e1 e2 e3
      go_enter Tryd.func9, Tryd.ntmps9
      go_wp2
      go_ret
      exact ⟨Told.f H.out, H0.out⟩
  · have k1 : decide (a ≥ 1) = false := by simp; omega
    have H : Hid (¬ RightP a b p) := fun e => h1 e.1
    clear h1 e1 e2 e3
    go_enter Tryd.func9, Tryd.ntmps9
    go_wp2
    go_ret
    exact ⟨Told.f H.out, H0.out⟩
end Go.Proofs.YtdmggcbbfljciaaDoor
