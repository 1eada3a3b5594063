/- level.equal. -/
import Derived.Test.YtdmggcbbfljciaaGreatDoorEqual
namespace Go.Proofs.YtdmggcbbfljciaaGreatDoor
open Go.RowKit

def LvSame (l h : Lvd) : Prop := l.sens = h.sens ∧ l.has = h.has ∧ ∀ x, l.P x ↔ h.P x
def EqIs (r : Bool) (l h : Lvd) : Prop := r = true ↔ LvSame l h

theorem run_eql_nil_ptr (w : World) (t : TypeId) (a : Addr) (h : Tryz.prog.underlying t = some (.pointer (Tryz.prog.pointee t))) :
    (binOp .eql t (.pointer none) (.pointer (some a))).run Tryz.prog w = .ok (.bool false) w := by
  have h1 : ∀ d : Nat, (Op.equalIn (d + 1) t (.pointer none) (.pointer (some a))).run Tryz.prog w = .ok false w := fun d => by
    simp [Op.equalIn, run_underlying h]
  simp only [binOp]
  simp [Op.equal, Op.maxDepth, h1 9999]

set_option maxRecDepth 100000 in
set_option maxHeartbeats 2000000 in
theorem equal_sens (lb lb' : Nat) (w : World) (p p' : Value) (s s' : Nat) (h : w.heap[lb]? = some (.cells #[p, .int .i64 s] 143 (0, 0))) (h' : w.heap[lb']? = some (.cells #[p', .int .i64 s'] 143 (0, 0))) (hne : s ≠ s') :
    Calls Tryz.prog 83 #[.pointer (some ⟨lb, 0, none⟩), .pointer (some ⟨lb', 0, none⟩)] w fun e w' => e = .returned (.bool false) ∧ Below w.heap.size w w' := by
  have c1 : w.cell? ⟨lb, 1, none⟩ = some (.int .i64 s) := row_cell (l := [p, .int .i64 s]) h rfl
  have c1' : w.cell? ⟨lb', 1, none⟩ = some (.int .i64 s') := row_cell (l := [p', .int .i64 s']) h' rfl
  have hnb : ((s' : Int) != (s : Int)) = true := by simp; omega
  have hnb2 : ((s' : Int) == (s : Int)) = false := by simp; omega
  clear h h'
  go_enter Tryz.func83, Tryz.ntmps83
  go_wp2
  go_quiet (fail)
  go_wp2
  go_ret
  exact ⟨rfl, below_drewN (Below.refl _ _) _⟩

set_option maxRecDepth 100000 in
set_option maxHeartbeats 2000000 in
theorem equal_none (lb lb' : Nat) (w : World) (s : Nat) (h : w.heap[lb]? = some (.cells #[.pointer none, .int .i64 s] 143 (0, 0))) (h' : w.heap[lb']? = some (.cells #[.pointer none, .int .i64 s] 143 (0, 0))) :
    Calls Tryz.prog 83 #[.pointer (some ⟨lb, 0, none⟩), .pointer (some ⟨lb', 0, none⟩)] w fun e w' => e = .returned (.bool true) ∧ Below w.heap.size w w' := by
  have c1 : w.cell? ⟨lb, 1, none⟩ = some (.int .i64 s) := row_cell (l := [.pointer none, .int .i64 s]) h rfl
  have c1' : w.cell? ⟨lb', 1, none⟩ = some (.int .i64 s) := row_cell (l := [.pointer none, .int .i64 s]) h' rfl
  have c0 : w.cell? ⟨lb, 0, none⟩ = some (.pointer none) := row_cell (l := [.pointer none, .int .i64 s]) h rfl
  have c0' : w.cell? ⟨lb', 0, none⟩ = some (.pointer none) := row_cell (l := [.pointer none, .int .i64 s]) h' rfl
  have hnb : ((s : Int) != (s : Int)) = false := by simp
  clear h h'
  go_enter Tryz.func83, Tryz.ntmps83
  go_wp2
  go_quiet (fail)
  go_wp2
  go_quiet (fail)
  go_wp2
  go_ret
  exact ⟨rfl, below_drewN (below_drewN (Below.refl _ _) _) _⟩

set_option maxRecDepth 100000 in
set_option maxHeartbeats 2000000 in
theorem equal_left (lb lb' b : Nat) (w : World) (s : Nat) (h : w.heap[lb]? = some (.cells #[.pointer (some ⟨b, 0, none⟩), .int .i64 s] 143 (0, 0))) (h' : w.heap[lb']? = some (.cells #[.pointer none, .int .i64 s] 143 (0, 0))) :
    Calls Tryz.prog 83 #[.pointer (some ⟨lb, 0, none⟩), .pointer (some ⟨lb', 0, none⟩)] w fun e w' => e = .returned (.bool false) ∧ Below w.heap.size w w' := by
  have c1 : w.cell? ⟨lb, 1, none⟩ = some (.int .i64 s) := row_cell (l := [.pointer (some ⟨b, 0, none⟩), .int .i64 s]) h rfl
  have c1' : w.cell? ⟨lb', 1, none⟩ = some (.int .i64 s) := row_cell (l := [.pointer none, .int .i64 s]) h' rfl
  have c0 : w.cell? ⟨lb, 0, none⟩ = some (.pointer (some ⟨b, 0, none⟩)) := row_cell (l := [.pointer (some ⟨b, 0, none⟩), .int .i64 s]) h rfl
  have c0' : w.cell? ⟨lb', 0, none⟩ = some (.pointer none) := row_cell (l := [.pointer none, .int .i64 s]) h' rfl
  have hnb : ((s : Int) != (s : Int)) = false := by simp
  have hpe := fun w : World => run_eql_nil_ptr w 141 ⟨b, 0, none⟩ (by kernel_rfl)
  clear h h'
  go_enter Tryz.func83, Tryz.ntmps83
  go_wp2
  go_quiet (fail)
  go_wp2
  go_quiet (fail)
  go_wp2
  go_ret
  exact ⟨rfl, below_drewN (below_drewN (Below.refl _ _) _) _⟩

set_option maxRecDepth 100000 in
set_option maxHeartbeats 2000000 in
theorem equal_right (lb lb' b : Nat) (w : World) (s : Nat) (h : w.heap[lb]? = some (.cells #[.pointer none, .int .i64 s] 143 (0, 0))) (h' : w.heap[lb']? = some (.cells #[.pointer (some ⟨b, 0, none⟩), .int .i64 s] 143 (0, 0))) :
    Calls Tryz.prog 83 #[.pointer (some ⟨lb, 0, none⟩), .pointer (some ⟨lb', 0, none⟩)] w fun e w' => e = .returned (.bool false) ∧ Below w.heap.size w w' := by
  have c1 : w.cell? ⟨lb, 1, none⟩ = some (.int .i64 s) := row_cell (l := [.pointer none, .int .i64 s]) h rfl
  have c1' : w.cell? ⟨lb', 1, none⟩ = some (.int .i64 s) := row_cell (l := [.pointer (some ⟨b, 0, none⟩), .int .i64 s]) h' rfl
  have c0 : w.cell? ⟨lb, 0, none⟩ = some (.pointer none) := row_cell (l := [.pointer none, .int .i64 s]) h rfl
  have c0' : w.cell? ⟨lb', 0, none⟩ = some (.pointer (some ⟨b, 0, none⟩)) := row_cell (l := [.pointer (some ⟨b, 0, none⟩), .int .i64 s]) h' rfl
  have hnb : ((s : Int) != (s : Int)) = false := by simp
  clear h h'
  go_enter Tryz.func83, Tryz.ntmps83
  go_wp2
  go_quiet (fail)
  go_wp2
  go_quiet (fail)
  go_wp2
  go_ret
  exact ⟨rfl, below_drewN (below_drewN (Below.refl _ _) _) _⟩

set_option maxRecDepth 100000 in
set_option maxHeartbeats 2000000 in
theorem equal_both (lb lb' b B b' B' : Nat) (ws ws' : List Nat) (w : World) (s : Nat) (h : w.heap[lb]? = some (.cells #[.pointer (some ⟨b, 0, none⟩), .int .i64 s] 143 (0, 0))) (h' : w.heap[lb']? = some (.cells #[.pointer (some ⟨b', 0, none⟩), .int .i64 s] 143 (0, 0))) (hw : BigOwn w b B ws) (hw' : BigOwn w b' B' ws') :
    Calls Tryz.prog 83 #[.pointer (some ⟨lb, 0, none⟩), .pointer (some ⟨lb', 0, none⟩)] w fun e w' => ∃ r : Bool, e = .returned (.bool r) ∧ (r = true ↔ ws = ws') ∧ Below w.heap.size w w' := by
  have c1 : w.cell? ⟨lb, 1, none⟩ = some (.int .i64 s) := row_cell (l := [.pointer (some ⟨b, 0, none⟩), .int .i64 s]) h rfl
  have c1' : w.cell? ⟨lb', 1, none⟩ = some (.int .i64 s) := row_cell (l := [.pointer (some ⟨b', 0, none⟩), .int .i64 s]) h' rfl
  have c0 : w.cell? ⟨lb, 0, none⟩ = some (.pointer (some ⟨b, 0, none⟩)) := row_cell (l := [.pointer (some ⟨b, 0, none⟩), .int .i64 s]) h rfl
  have c0' : w.cell? ⟨lb', 0, none⟩ = some (.pointer (some ⟨b', 0, none⟩)) := row_cell (l := [.pointer (some ⟨b', 0, none⟩), .int .i64 s]) h' rfl
  have hnb : ((s : Int) != (s : Int)) = false := by simp
  have hc := Lib.hid (fun (w1 : World) (hb : Below w.heap.size w w1) => big_cmp w1 b B b' B' ws ws' (hw.below hb) (hw'.below hb))
  clear h h'
  go_enter Tryz.func83, Tryz.ntmps83
  go_wp2
  go_quiet (fail)
  go_wp2
  go_region_with ((go_at_call 109; refine (hc.out _ (by exact ((below_drewN (Below.refl _ w) _).drew))).mono ?_; rintro e w3 ⟨r, rfl, hr, hb3⟩; have hbx : Hid (Below w.heap.size w w3) := ((below_drewN (Below.refl _ w) _).drew).trans hb3))
  all_goals go_wp2
  all_goals go_ret
  all_goals exact ⟨_, rfl, (by have e := hr; unfold CmpIs at e; rw [← e]; simp), hbx.out⟩

theorem lv_equal (lb lb' : Nat) (l h : Lvd) (w : World) (hl : LvAt' w lb l) (hh : LvAt' w lb' h) :
    Calls Tryz.prog 83 #[.pointer (some ⟨lb, 0, none⟩), .pointer (some ⟨lb', 0, none⟩)] w fun e w' => ∃ r : Bool, e = .returned (.bool r) ∧ EqIs r l h ∧ Below w.heap.size w w' := by
  obtain ⟨s, a, P⟩ := l
  obtain ⟨s', a', P'⟩ := h
  unfold LvAt' at hl hh
  dsimp only at hl hh
  by_cases hs : s = s'
  · subst hs
    rcases hl with ⟨h1, h2, h3⟩ | ⟨h1, b, B, ws, h2, h3, h5⟩
    · rcases hh with ⟨g1, g2, g3⟩ | ⟨g1, b', B', ws', g2, g3, g4⟩
      · refine (equal_none lb lb' w s h2 g2).mono ?_
        rintro e w' ⟨rfl, hb⟩
        refine ⟨true, rfl, ⟨fun _ => ⟨rfl, h1.trans g1.symm, fun x => ⟨fun e => absurd e (h3 x), fun e => absurd e (g3 x)⟩⟩, fun _ => rfl⟩, hb⟩
      · refine (equal_right lb lb' b' w s h2 g2).mono ?_
        rintro e w' ⟨rfl, hb⟩
        refine ⟨false, rfl, ⟨fun e => (by cases e), fun e => ?_⟩, hb⟩
        have := e.2.1
        simp_all
    · rcases hh with ⟨g1, g2, g3⟩ | ⟨g1, b', B', ws', g2, g3, g5⟩
      · refine (equal_left lb lb' b w s h2 g2).mono ?_
        rintro e w' ⟨rfl, hb⟩
        refine ⟨false, rfl, ⟨fun e => (by cases e), fun e => ?_⟩, hb⟩
        have := e.2.1
        simp_all
      · have h4 : CL.Nrm ws := by obtain ⟨_, v, _, _, e, _⟩ := h3; exact e
        have g4 : CL.Nrm ws' := by obtain ⟨_, v, _, _, e, _⟩ := g3; exact e
        refine (equal_both lb lb' b B b' B' ws ws' w s h2 g2 h3 g3).mono ?_
        rintro e w' ⟨r, rfl, hr, hb⟩
        refine ⟨r, rfl, ⟨fun e => ?_, fun e => ?_⟩, hb⟩
        · have := hr.1 e
          subst this
          exact ⟨rfl, h1.trans g1.symm, fun x => (h5 x).symm.trans (g5 x)⟩
        · refine hr.2 (CL.tb_ext h4 g4 fun k => ?_)
          have hx : (CL.tb ws k = true) ↔ (CL.tb ws' k = true) := (h5 k).trans ((e.2.2 k).trans (g5 k).symm)
          cases e1 : CL.tb ws k <;> cases e2 : CL.tb ws' k <;> simp_all
  · rcases hl with ⟨h1, h2, h3⟩ | ⟨h1, b, B, ws, h2, h3, h4⟩ <;> rcases hh with ⟨g1, g2, g3⟩ | ⟨g1, b', B', ws', g2, g3, g4⟩ <;>
    · refine (equal_sens lb lb' w _ _ s s' h2 g2 hs).mono ?_
      rintro e w' ⟨rfl, hb⟩
      exact ⟨false, rfl, ⟨fun e => (by cases e), fun e => absurd e.1 hs⟩, hb⟩
end Go.Proofs.YtdmggcbbfljciaaGreatDoor
