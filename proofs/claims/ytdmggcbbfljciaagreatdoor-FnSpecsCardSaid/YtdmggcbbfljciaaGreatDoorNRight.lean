/- spec.Right: a range of ports with a protocol. -/
import Derived.Test.YtdmggcbbfljciaaGreatDoorNRange
import Derived.Test.YtdmggcbbfljciaaGreatDoorTold
namespace Go.Proofs.YtdmggcbbfljciaaGreatDoor
open Go.RowKit Go.Lib

theorem fits7 (a b : Int) (p : ByteArray) (w : World) :
    Calls Tryz.prog 19 #[.agg #[.int .i64 a, .int .i64 b, .string p]] w fun e w' => Told e (p.size ≤ 2147483647) ∧ Below w.heap.size w w' := by
  by_cases h : p.size ≤ 2147483647
  · have h1 : decide ((p.size : Int) > 2147483647) = false := by simp; omega
    go_enter Tryz.func19, Tryz.ntmps19
    go_wp2
    go_ret
    exact ⟨Told.t h, (Below.refl _ _).alloc (Nat.le_refl _) _⟩
  · have h1 : decide ((p.size : Int) > 2147483647) = true := by simp; omega
    go_enter Tryz.func19, Tryz.ntmps19
    go_wp2
    go_ret
    exact ⟨Told.f h, (Below.refl _ _).alloc (Nat.le_refl _) _⟩

/-- a protocol's name -/
def ProtoL (l : List UInt8) : Prop := l = [116, 99, 112] ∨ l = [117, 100, 112] ∨ l = [115, 99, 116, 112]
def RightP (a b : Int) (p : ByteArray) : Prop := 1 ≤ a ∧ a ≤ b ∧ b ≤ 65535 ∧ ProtoL p.data.toList

theorem lit_eq (p : ByteArray) (l : List UInt8) : (p.toList == l) = decide (p.data.toList = l) := by
  rw [ByteArray.toList_eq, Bool.eq_iff_iff]; simp

set_option maxRecDepth 100000 in
set_option maxHeartbeats 2000000 in
theorem right_any (a b : Int) (p : ByteArray) (w : World) :
    Calls Tryz.prog 20 #[.agg #[.int .i64 a, .int .i64 b, .string p]] w fun e w' => Told e (RightP a b p) ∧ Below w.heap.size w w' := by
  have H0 : Hid (Below w.heap.size w (w.alloc (.cells #[.int .i64 a, .int .i64 b, .string p] 23))) := (Below.refl _ _).alloc (Nat.le_refl _) _
  have e1 := lit_eq p [116, 99, 112]
  have e2 := lit_eq p [117, 100, 112]
  have e3 := lit_eq p [115, 99, 116, 112]
  by_cases h1 : 1 ≤ a
  · have k1 : decide (a ≥ 1) = true := by simp; omega
    by_cases h2 : a ≤ b
    · have k2 : decide (a ≤ b) = true := by simp; omega
      by_cases h3 : b ≤ 65535
      · have k3 : decide (b ≤ 65535) = true := by simp; omega
        by_cases q0 : p.data.toList = [116, 99, 112]
        · rw [decide_eq_true q0] at e1
          have H : Hid (RightP a b p) := ⟨h1, h2, h3, Or.inl q0⟩
          clear h1 h2 h3 q0
          go_enter Tryz.func20, Tryz.ntmps20
          go_wp2
          go_ret
          exact ⟨Told.t H.out, H0.out⟩
        · rw [decide_eq_false q0] at e1
          by_cases q1 : p.data.toList = [117, 100, 112]
          · rw [decide_eq_true q1] at e2
            have H : Hid (RightP a b p) := ⟨h1, h2, h3, Or.inr (Or.inl q1)⟩
            clear h1 h2 h3 q0 q1
            go_enter Tryz.func20, Tryz.ntmps20
            go_wp2
            go_ret
            exact ⟨Told.t H.out, H0.out⟩
          · rw [decide_eq_false q1] at e2
            by_cases q2 : p.data.toList = [115, 99, 116, 112]
            · rw [decide_eq_true q2] at e3
              have H : Hid (RightP a b p) := ⟨h1, h2, h3, Or.inr (Or.inr q2)⟩
              clear h1 h2 h3 q0 q1 q2
              go_enter Tryz.func20, Tryz.ntmps20
              go_wp2
              go_ret
              exact ⟨Told.t H.out, H0.out⟩
            · rw [decide_eq_false q2] at e3
              have H : Hid (¬ RightP a b p) := fun e => by rcases e.2.2.2 with e | e | e; exact q0 e; exact q1 e; exact q2 e
              clear h1 h2 h3 q0 q1 q2
              go_enter Tryz.func20, Tryz.ntmps20
              go_wp2
              go_ret
              exact ⟨Told.f H.out, H0.out⟩
      · have k3 : decide (b ≤ 65535) = false := by simp; omega
        have H : Hid (¬ RightP a b p) := fun e => h3 e.2.2.1
        clear h1 h2 h3 e1 e2 e3
        go_enter Tryz.func20, Tryz.ntmps20
        go_wp2
        go_ret
        exact ⟨Told.f H.out, H0.out⟩
    · have k2 : decide (a ≤ b) = false := by simp; omega
      have H : Hid (¬ RightP a b p) := fun e => h2 e.2.1
      clear h1 h2 e1 e2 e3
      go_enter Tryz.func20, Tryz.ntmps20
      go_wp2
      go_ret
      exact ⟨Told.f H.out, H0.out⟩
  · have k1 : decide (a ≥ 1) = false := by simp; omega
    have H : Hid (¬ RightP a b p) := fun e => h1 e.1
    clear h1 e1 e2 e3
    go_enter Tryz.func20, Tryz.ntmps20
    go_wp2
    go_ret
    exact ⟨Told.f H.out, H0.out⟩
end Go.Proofs.YtdmggcbbfljciaaGreatDoor
