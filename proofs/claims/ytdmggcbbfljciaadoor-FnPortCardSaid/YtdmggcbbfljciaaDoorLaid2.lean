/- what the rows' lists give the walks: strconv.ErrSyntax holds an error; how ports come in. -/
import Derived.Test.YtdmggcbbfljciaaDoorLaid
import Derived.Test.YtdmggcbbfljciaaDoorNPort
import Derived.ProofKit
import Derived.OpenShut
import Derived.Lib.SmallJoins
namespace Go.Proofs.YtdmggcbbfljciaaDoor
open Go.ChangeShapes Go.WideShapes Go.ChangeAt Go.RowKit

theorem gsyn : Tryd.prog.globalNamed "strconv.ErrSyntax" = some 0 := by kernel_rfl
theorem tsyn : (Tryd.prog.globals[0]?).map (·.type) = some 41 := by kernel_rfl

theorem iface_cells {H : Type} {enc : TypeId × Value → H} {P : Program} {w : World} {base : Nat} {sp : Nat → Bool} {fuel : Nat} {t : TypeId} {ms : Array (String × TypeId)} {cs : List Value} {nm : String} {y : DataW H} {p : List MemPlace}
    (ht : P.underlying t = some (.interface ms)) (h : DataW.trod enc P w base sp false fuel t cs = some (.iface nm y, p)) : ∃ u v, cs = [.iface u v] := by
  cases fuel with
  | zero => simp [DataW.trod] at h
  | succ n =>
    unfold DataW.trod at h
    rw [ht] at h
    split at h <;> simp_all

theorem err_of_laid {W : World} (h : laidMetH Tryd.prog laids W) : ErrAt W := by
  rw [MakeChecks.laidMetH_plain _ _ _ (by kernel_rfl)] at h
  obtain ⟨ps, ⟨_, _, _, _, _, _, _, _, _, _, ⟨_, _, _, _, _, _, _, _, _, _, ⟨_, _, _, _, _, _, _, _, _, _, ⟨_, _, _, _, _, _, _, _, _, _, ⟨g4, t4, cs4, f4, p4, q4, hg4, ht4, hv4, hd4, _, _⟩, _⟩, _⟩, _⟩, _⟩, _, _⟩ := h
  obtain rfl := Option.some.inj (gsyn.symm.trans hg4)
  obtain rfl := Option.some.inj (tsyn.symm.trans ht4)
  obtain ⟨u, v, hcs⟩ := iface_cells Tryd.underlying41 hd4
  refine ⟨u, v, ?_⟩
  have h1 := World.var?_cell gsyn hv4 0
  rw [Array.eq_one_of_toList hcs] at h1
  simpa using h1

set_option maxRecDepth 100000 in
theorem open_ports {H : Type} {enc : TypeId × Value → H} {W : World} {r : Reach} {b0 : Nat} {v : Value} {d : DataW H} {p : List MemPlace} (hv : Value.okWide Tryd.prog W r b0 28 v) (h : DataW.Trod enc Tryd.prog W 0 (fun _ => true) true 28 v d p) :
    ∃ (a b : Int) (s : ByteArray), v = .agg #[.int .i64 a, .int .i64 b, .string s] := by
  obtain ⟨v0, v1, v2, y0, y1, y2, n, rfl, _, _, h0, h1, h2⟩ := Joins.open_agg3 Tryd.underlying28 (by kernel_rfl) (by kernel_rfl) hv h
  obtain ⟨a, ha, _⟩ := DataW.trod_int Tryd.underlying3 h0
  obtain ⟨b, hb, _⟩ := DataW.trod_int Tryd.underlying3 h1
  obtain ⟨s, hs, _⟩ := DataW.trod_string Tryd.underlying9 h2
  simp only [List.cons.injEq, and_true] at ha hb hs
  exact ⟨a, b, s, by rw [ha, hb, hs]⟩
end Go.Proofs.YtdmggcbbfljciaaDoor
