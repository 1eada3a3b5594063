/- how specifications of ports come in as arguments. -/
import Derived.Test.YtdmggcbbfljciaaGreatDoorWorks
import Derived.ProofKit
import Derived.OpenShut
import Derived.Lib.SmallJoins
import Derived.Deep.Strs
import Derived.Deep.SlicePairs
namespace Go.Proofs.YtdmggcbbfljciaaGreatDoor
open Go.ChangeShapes Go.WideShapes Go.ChangeAt Go.RowKit

/-- a specification as it comes in -/
structure PubI where
  a : Int
  b : Int
  pr : ByteArray
  ip : ByteArray
  h : Int
  g : Int

def pubV (q : PubI) : List Value := [.int .i64 q.a, .int .i64 q.b, .string q.pr, .string q.ip, .int .i64 q.h, .int .i64 q.g]

set_option maxRecDepth 100000 in
theorem open_pub_cells {H : Type} {enc : TypeId × Value → H} {W : World} {fuel : Nat} {cs : List Value} {y : DataW H × List MemPlace} (hl : cs.length = 6) (h : DataW.trod enc Tryz.prog W 0 (fun _ => true) true fuel 25 cs = some y) :
    ∃ q : PubI, cs = pubV q := by
  match cs, hl with
  | [v0, v1, v2, v3, v4, v5], _ =>
    obtain ⟨y0, y1, y2, y3, n, _, _, h0, h1, h2, h3⟩ := Joins.trod_struct4 Tryz.underlying25 h
    have e0 : Tryz.prog.cellsOf 23 = 3 := by kernel_rfl
    have e1 : Tryz.prog.cellsOf 9 = 1 := by kernel_rfl
    have e2 : Tryz.prog.cellsOf 3 = 1 := by kernel_rfl
    simp only [e0, e1, e2, List.drop_zero, List.take_succ_cons, List.take_zero, List.drop_succ_cons] at h0 h1 h2 h3
    obtain ⟨z0, z1, z2, m, _, _, g0, g1, g2⟩ := Deep.trod_struct3 Tryz.underlying23 h0
    simp only [e1, e2, List.drop_zero, List.take_succ_cons, List.take_zero, List.drop_succ_cons] at g0 g1 g2
    obtain ⟨a, ha, _⟩ := DataW.trod_int Tryz.underlying3 g0
    obtain ⟨b, hb, _⟩ := DataW.trod_int Tryz.underlying3 g1
    obtain ⟨p, hp, _⟩ := DataW.trod_string Tryz.underlying9 g2
    obtain ⟨i, hi, _⟩ := DataW.trod_string Tryz.underlying9 h1
    obtain ⟨c, hc, _⟩ := DataW.trod_int Tryz.underlying3 h2
    obtain ⟨d, hd, _⟩ := DataW.trod_int Tryz.underlying3 h3
    simp only [List.cons.injEq, and_true] at ha hb hp hi hc hd
    exact ⟨⟨a, b, p, i, c, d⟩, by rw [ha, hb, hp, hi, hc, hd]; rfl⟩

theorem array_list {α : Type} (cs : Array α) : cs = cs.toList.toArray := by simp

set_option maxRecDepth 100000 in
theorem open_pub {H : Type} {enc : TypeId × Value → H} {W : World} {r : Reach} {b0 : Nat} {v : Value} {d : DataW H} {p : List MemPlace} (hv : Value.okWide Tryz.prog W r b0 25 v) (h : DataW.Trod enc Tryz.prog W 0 (fun _ => true) true 25 v d p) :
    ∃ q : PubI, v = .agg (pubV q).toArray := by
  obtain ⟨cs, rfl, hsz⟩ := okWide_struct Tryz.underlying25 hv
  have e6 : Tryz.prog.cellsOf 25 = 6 := by kernel_rfl
  obtain ⟨fuel, hf⟩ := h
  obtain ⟨q, hq⟩ := open_pub_cells (cs := cs.toList) (by simpa using hsz.trans e6) (by simpa [Value.cells] using hf)
  exact ⟨q, by rw [← hq]⟩
end Go.Proofs.YtdmggcbbfljciaaGreatDoor
