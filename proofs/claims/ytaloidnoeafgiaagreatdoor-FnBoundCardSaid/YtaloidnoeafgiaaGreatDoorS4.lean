/- four cells of a block that stay, and worlds behind a call. -/
import Derived.Test.YtaloidnoeafgiaaGreatDoorRgOut
namespace Go.Proofs.YtaloidnoeafgiaaGreatDoor
open Go.RowKit Go.Lib

theorem below_al1 (W : World) (o : Obj) : Below W.heap.size W (W.alloc o) := (Below.refl _ _).alloc (Nat.le_refl _) _
theorem below_al2 (W : World) (o o' : Obj) : Below W.heap.size W ((W.alloc o).alloc o') := ((Below.refl _ _).alloc (Nat.le_refl _) _).alloc (by simp) _
theorem sz_al1 (W : World) (o : Obj) : W.heap.size ≤ (W.alloc o).heap.size := by simp
theorem sz_al2 (W : World) (o o' : Obj) : W.heap.size ≤ ((W.alloc o).alloc o').heap.size := by simp; omega
/-- a span's four cells lie in X, and X comes from V -/
def S4 (V : World) (b : Nat) (x0 x1 x2 x3 : Value) (X : World) : Prop := X.cell? ⟨b, 0, none⟩ = some x0 ∧ X.cell? ⟨b, 1, none⟩ = some x1 ∧ X.cell? ⟨b, 2, none⟩ = some x2 ∧ X.cell? ⟨b, 3, none⟩ = some x3 ∧ Below V.heap.size V X
theorem S4.keep {X V : World} {b : Nat} {x0 x1 x2 x3 : Value} (l : b < V.heap.size) (h : S4 V b x0 x1 x2 x3 V) (hb : Below V.heap.size V X) : S4 V b x0 x1 x2 x3 X := by
  have k : ∀ j, X.cell? ⟨b, j, none⟩ = V.cell? ⟨b, j, none⟩ := fun j => hb.cell (p := ⟨b, j, none⟩) l
  exact ⟨(k 0).trans h.1, (k 1).trans h.2.1, (k 2).trans h.2.2.1, (k 3).trans h.2.2.2.1, hb⟩
theorem bl_step {V W X : World} (hb : Below W.heap.size W X) (h : Below V.heap.size V W) : Below V.heap.size V X := h.trans (hb.mono h.size)
theorem S4.parts {X V : World} {b : Nat} {x0 x1 x2 x3 : Value} (h : S4 V b x0 x1 x2 x3 X) : X.cell? ⟨b, 0, none⟩ = some x0 ∧ X.cell? ⟨b, 1, none⟩ = some x1 ∧ X.cell? ⟨b, 2, none⟩ = some x2 ∧ X.cell? ⟨b, 3, none⟩ = some x3 := ⟨h.1, h.2.1, h.2.2.1, h.2.2.2.1⟩
theorem bl_alloc {X V : World} (h : Below V.heap.size V X) (o : Obj) : Below V.heap.size V (X.alloc o) := h.alloc h.size o
end Go.Proofs.YtaloidnoeafgiaaGreatDoor
