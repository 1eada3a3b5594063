/- how labels come in (a seat without options) as arguments. -/
import Derived.Test.YtaloidnoeafgiaaGreatDoorLabS
import Derived.ProofKit
import Derived.OpenShut
import Derived.Lib.SmallJoins
namespace Go.Proofs.YtaloidnoeafgiaaGreatDoor
open Go.ChangeShapes Go.WideShapes Go.ChangeAt Go.RowKit

set_option maxRecDepth 100000 in
theorem open_lab {H : Type} {enc : TypeId × Value → H} {W : World} {r : Reach} {b0 : Nat} {v : Value} {d : DataW H} {p : List MemPlace} (hv : Value.okWide Tryz.prog W r b0 45 v) (h : DataW.Trod enc Tryz.prog W 0 (fun _ => true) true 45 v d p) :
    ∃ x : Lab, v = labV x.u x.r x.t x.l := by
  obtain ⟨cs, rfl, hsz⟩ := okWide_struct Tryz.underlying45 hv
  have e4 : Tryz.prog.cellsOf 45 = 4 := by kernel_rfl
  obtain ⟨c0, c1, c2, c3, rfl⟩ := Joins.array4 (hsz.trans e4)
  obtain ⟨fuel, hf⟩ := h
  obtain ⟨y0, y1, y2, y3, n, _, _, h0, h1, h2, h3⟩ := Joins.trod_struct4 Tryz.underlying45 hf
  have e1 : Tryz.prog.cellsOf 9 = 1 := by kernel_rfl
  simp only [Value.cells, e1, List.drop_zero, List.take_succ_cons, List.take_zero, List.drop_succ_cons] at h0 h1 h2 h3
  obtain ⟨s0, hs0, _⟩ := DataW.trod_string Tryz.underlying9 h0
  obtain ⟨s1, hs1, _⟩ := DataW.trod_string Tryz.underlying9 h1
  obtain ⟨s2, hs2, _⟩ := DataW.trod_string Tryz.underlying9 h2
  obtain ⟨s3, hs3, _⟩ := DataW.trod_string Tryz.underlying9 h3
  simp only [List.cons.injEq, and_true] at hs0 hs1 hs2 hs3
  subst hs0 hs1 hs2 hs3
  exact ⟨⟨s0, s1, s2, s3⟩, rfl⟩

end Go.Proofs.YtaloidnoeafgiaaGreatDoor
