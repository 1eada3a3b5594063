/- how levels and ranges come in as arguments. -/
import Derived.Test.YtaloidnoeafgiaaGreatDoorLaid
import Derived.Test.YtaloidnoeafgiaaGreatDoorSpec1
import Derived.ProofKit
import Derived.OpenShut
namespace Go.Proofs.YtaloidnoeafgiaaGreatDoor
open Go.ChangeShapes Go.WideShapes Go.ChangeAt Go.RowKit

set_option maxRecDepth 100000 in
theorem open_cats {H : Type} {enc : TypeId × Value → H} {W : World} {fuel : Nat} {v : Value} {y : DataW H × List MemPlace} (h : DataW.trod enc Tryz.prog W 0 (fun _ => true) true fuel 22 [v] = some y) :
    ∃ (ao : Option Addr) (l : List Int) (c : Nat), v = .slice ao l.length c ∧ IntsAt W ao l := by
  rcases open_ints Tryz.underlying22 Tryz.underlying3 (by kernel_rfl) h with ⟨hcs, _⟩ | ⟨x, n, c, zs, hcs, _, hl, hm, hz, _, hcell, _⟩
  · simp only [List.cons.injEq, and_true] at hcs
    exact ⟨none, [], 0, hcs, fun i hi => absurd hi (by simp)⟩
  · simp only [List.cons.injEq, and_true] at hcs
    have hz2 : zs.length = c := by simpa using hz
    have e : (zs.take n).length = n := by simp; omega
    refine ⟨some x, zs.take n, c, by rw [e]; exact hcs, fun i hi => ?_⟩
    have hi2 : i < zs.length := by omega
    have h1 := hcell i hi2
    have h2 := World.block_lt_of_cell? W _ h1
    rw [add_block] at h2
    refine ⟨x, rfl, h2, ?_⟩
    rw [h1]
    have hin : i < n := by omega
    simp [List.getD, List.getElem?_take, hin]

set_option maxRecDepth 100000 in
theorem open_level {H : Type} {enc : TypeId × Value → H} {W : World} {fuel : Nat} {v0 v1 : Value} {y : DataW H × List MemPlace} (h : DataW.trod enc Tryz.prog W 0 (fun _ => true) true fuel 24 [v0, v1] = some y) :
    ∃ (s : Int) (ao : Option Addr) (l : List Int) (c : Nat), v0 = .int .i64 s ∧ v1 = .slice ao l.length c ∧ IntsAt W ao l := by
  obtain ⟨y0, y1, n, _, _, h0, h1⟩ := trod_struct2 Tryz.underlying24 h
  have e0 : Tryz.prog.cellsOf 3 = 1 := by kernel_rfl
  have e1 : Tryz.prog.cellsOf 22 = 1 := by kernel_rfl
  simp only [e0, e1, List.drop_zero, List.take_succ_cons, List.take_zero, List.drop_succ_cons] at h0 h1
  obtain ⟨s, hs, _⟩ := DataW.trod_int Tryz.underlying3 h0
  simp only [List.cons.injEq, and_true] at hs
  obtain ⟨ao, l, c, hc, hi⟩ := open_cats h1
  exact ⟨s, ao, l, c, hs, hc, hi⟩

set_option maxRecDepth 100000 in
theorem open_span {H : Type} {enc : TypeId × Value → H} {W : World} {r : Reach} {b0 : Nat} {v : Value} {d : DataW H} {p : List MemPlace} (hv : Value.okWide Tryz.prog W r b0 26 v) (h : DataW.Trod enc Tryz.prog W 0 (fun _ => true) true 26 v d p) :
    ∃ (s : Int) (ao : Option Addr) (l : List Int) (c : Nat) (s' : Int) (ao' : Option Addr) (l' : List Int) (c' : Nat), v = .agg #[.int .i64 s, .slice ao l.length c, .int .i64 s', .slice ao' l'.length c'] ∧ IntsAt W ao l ∧ IntsAt W ao' l' := by
  obtain ⟨cs, rfl, hsz⟩ := okWide_struct Tryz.underlying26 hv
  have e4 : Tryz.prog.cellsOf 26 = 4 := by kernel_rfl
  obtain ⟨c0, c1, c2, c3, rfl⟩ := Joins.array4 (hsz.trans e4)
  obtain ⟨fuel, hf⟩ := h
  obtain ⟨y0, y1, n, _, _, h0, h1⟩ := trod_struct2 Tryz.underlying26 hf
  have e2 : Tryz.prog.cellsOf 24 = 2 := by kernel_rfl
  simp only [Value.cells, e2, List.drop_zero, List.take_succ_cons, List.take_zero, List.drop_succ_cons] at h0 h1
  obtain ⟨s, ao, l, c, rfl, rfl, hi⟩ := open_level h0
  obtain ⟨s', ao', l', c', rfl, rfl, hi'⟩ := open_level h1
  exact ⟨s, ao, l, c, s', ao', l', c', rfl, hi, hi'⟩

set_option maxRecDepth 100000 in
theorem open_lvl {H : Type} {enc : TypeId × Value → H} {W : World} {r : Reach} {b0 : Nat} {v : Value} {d : DataW H} {p : List MemPlace} (hv : Value.okWide Tryz.prog W r b0 24 v) (h : DataW.Trod enc Tryz.prog W 0 (fun _ => true) true 24 v d p) :
    ∃ (s : Int) (ao : Option Addr) (l : List Int) (c : Nat), v = .agg #[.int .i64 s, .slice ao l.length c] ∧ IntsAt W ao l := by
  obtain ⟨cs, rfl, hsz⟩ := okWide_struct Tryz.underlying24 hv
  have e4 : Tryz.prog.cellsOf 24 = 2 := by kernel_rfl
  obtain ⟨c0, c1, rfl⟩ := Joins.array2 (hsz.trans e4)
  obtain ⟨fuel, hf⟩ := h
  obtain ⟨s, ao, l, c, rfl, rfl, hi⟩ := open_level hf
  exact ⟨s, ao, l, c, rfl, hi⟩
end Go.Proofs.YtaloidnoeafgiaaGreatDoor
