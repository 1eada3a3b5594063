/- what a call tells of a proposition (at a seat without spec.Level; else Spec1 has it). -/
import Derived.Test.YtdmggcbbfljciaaGreatDoorDec
namespace Go.Proofs.YtdmggcbbfljciaaGreatDoor
open Go.RowKit Go.Lib

/-- the call tells whether a proposition holds -/
def Told (e : Ending) (p : Prop) : Prop := ∃ r : Bool, e = .returned (.bool r) ∧ (r = true ↔ p)
theorem Told.t {p : Prop} (h : p) : Told (.returned (.bool true)) p := ⟨true, rfl, fun _ => h, fun _ => rfl⟩
theorem Told.f {p : Prop} (h : ¬ p) : Told (.returned (.bool false)) p := ⟨false, rfl, fun e => (by cases e), fun e => absurd e h⟩
end Go.Proofs.YtdmggcbbfljciaaGreatDoor
