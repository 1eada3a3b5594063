/- how labels and options come in as arguments. -/
import Derived.Test.YtaloidnoeafgiaaDoorInit3
import Derived.ProofKit
import Derived.OpenShut
import Derived.Lib.SmallJoins
import Derived.Deep.SlicePairs
namespace Go.Proofs.YtaloidnoeafgiaaDoor
open Go.ChangeShapes Go.WideShapes Go.ChangeAt Go.RowKit

set_option maxRecDepth 100000 in
theorem open_lab {H : Type} {enc : TypeId × Value → H} {W : World} {r : Reach} {b0 : Nat} {v : Value} {d : DataW H} {p : List MemPlace} (hv : Value.okWide Tryd.prog W r b0 41 v) (h : DataW.Trod enc Tryd.prog W 0 (fun _ => true) true 41 v d p) :
    ∃ x : Lab, v = labV x.u x.r x.t x.l := by
  obtain ⟨cs, rfl, hsz⟩ := okWide_struct Tryd.underlying41 hv
  have e4 : Tryd.prog.cellsOf 41 = 4 := by kernel_rfl
  obtain ⟨c0, c1, c2, c3, rfl⟩ := Joins.array4 (hsz.trans e4)
  obtain ⟨fuel, hf⟩ := h
  obtain ⟨y0, y1, y2, y3, n, _, _, h0, h1, h2, h3⟩ := Joins.trod_struct4 Tryd.underlying41 hf
  have e1 : Tryd.prog.cellsOf 9 = 1 := by kernel_rfl
  simp only [Value.cells, e1, List.drop_zero, List.take_succ_cons, List.take_zero, List.drop_succ_cons] at h0 h1 h2 h3
  obtain ⟨s0, hs0, _⟩ := DataW.trod_string Tryd.underlying9 h0
  obtain ⟨s1, hs1, _⟩ := DataW.trod_string Tryd.underlying9 h1
  obtain ⟨s2, hs2, _⟩ := DataW.trod_string Tryd.underlying9 h2
  obtain ⟨s3, hs3, _⟩ := DataW.trod_string Tryd.underlying9 h3
  simp only [List.cons.injEq, and_true] at hs0 hs1 hs2 hs3
  subst hs0 hs1 hs2 hs3
  exact ⟨⟨s0, s1, s2, s3⟩, rfl⟩

set_option maxRecDepth 100000 in
theorem open_opts {H : Type} {enc : TypeId × Value → H} {W : World} {r : Reach} {b0 : Nat} {v : Value} {d : DataW H} {p : List MemPlace} (hv : Value.okWide Tryd.prog W r b0 49 v) (h : DataW.Trod enc Tryd.prog W 0 (fun _ => true) true 49 v d p) :
    ∃ (ao : Option Addr) (os : List (ByteArray × ByteArray)) (c : Nat), v = .slice ao os.length c ∧ OptsAt W ao os ∧ os.length ≤ 9223372036854775807 := by
  obtain ⟨a0, len, cap, rfl⟩ := okWide_slice Tryd.underlying49 hv
  obtain ⟨fuel, hf⟩ := h
  rcases Deep.open_slice_pairs Tryd.underlying49 Tryd.underlying44 (by kernel_rfl) rfl rfl (by kernel_rfl) (by kernel_rfl) hf with ⟨hcs, _⟩ | ⟨a, len', cap', m, n, V0, V1, D0, D1, P0, P1, hcs, _, hl, hc, hm, _, hx⟩
  · simp only [Value.cells, List.cons.injEq, and_true] at hcs
    rw [hcs]
    exact ⟨none, [], 0, rfl, fun i hi => absurd hi (by simp), by simp⟩
  · simp only [Value.cells, List.cons.injEq, and_true] at hcs
    rw [hcs]
    have hmm : len' ≤ m := by rw [hm]; split <;> omega
    have each : ∀ i, i < len' → ∃ q : ByteArray × ByteArray, V0 i = .string q.1 ∧ V1 i = .string q.2 := by
      intro i hi
      obtain ⟨_, _, h0, h1⟩ := hx i (by omega)
      obtain ⟨s0, hs0, _⟩ := DataW.trod_string Tryd.underlying9 h0
      obtain ⟨s1, hs1, _⟩ := DataW.trod_string Tryd.underlying9 h1
      simp only [List.cons.injEq, and_true] at hs0 hs1
      exact ⟨(s0, s1), hs0, hs1⟩
    obtain ⟨q, hq⟩ := Deep.choose_lt each
    have e1 : ((List.range len').map q).length = len' := by simp
    refine ⟨some a, (List.range len').map q, cap', by rw [e1], fun i hi => ?_, by rw [e1]; unfold maxLen at hc; omega⟩
    have hi2 : i < len' := by omega
    obtain ⟨g0, g1, _⟩ := hx i (by omega)
    have e2 : ((List.range len').map q).getD i (kD, kD) = q i := by simp [List.getD, hi2]
    have hlt := World.block_lt_of_cell? W _ g0
    rw [add_block'] at hlt
    rw [e2]
    refine ⟨a, rfl, hlt, by rw [g0, (hq i hi2).1], ?_⟩
    rw [add_next, g1, (hq i hi2).2]
end Go.Proofs.YtaloidnoeafgiaaDoor
