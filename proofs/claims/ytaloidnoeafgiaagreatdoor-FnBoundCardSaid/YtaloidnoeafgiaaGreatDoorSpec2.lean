/- spec.Proper, laws.span. -/
import Derived.Test.YtaloidnoeafgiaaGreatDoorSpec1
namespace Go.Proofs.YtaloidnoeafgiaaGreatDoor
open Go.RowKit Go.Lib

set_option maxRecDepth 100000 in
theorem proper_any (s : Int) (ao : Option Addr) (l : List Int) (c : Nat) (w : World) (h : IntsAt w ao l) :
    Calls Tryz.prog 22 #[.agg #[.int .i64 s, .slice ao l.length c]] w fun e w' => Told e (ProperL s l) ∧ Below w.heap.size w w' := by
  by_cases h0 : s < 0
  · have h1 : decide (s < 0) = true := by simp; omega
    go_enter Tryz.func22, Tryz.ntmps22
    go_wp2_with fail
    go_ret
    exact ⟨Told.f (fun e => by have := e.1; omega), (Below.refl _ _).alloc (Nat.le_refl _) _⟩
  by_cases h9 : s > 9999
  · have h1 : decide (s < 0) = false := by simp; omega
    have h2 : decide (s > 9999) = true := by simp; omega
    go_enter Tryz.func22, Tryz.ntmps22
    go_wp2_with fail
    go_ret
    exact ⟨Told.f (fun e => by have := e.2.1; omega), (Below.refl _ _).alloc (Nat.le_refl _) _⟩
  by_cases hl : l.length ≤ 500
  · refine (proper_loop s ao l c w h h0 h9 hl).mono ?_
    rintro e w' ⟨⟨r, rfl, hr⟩, hb⟩
    exact ⟨⟨r, rfl, hr.trans ⟨fun e => ⟨by omega, by omega, hl, e⟩, fun e => e.2.2.2⟩⟩, hb⟩
  · have h1 : decide (s < 0) = false := by simp; omega
    have h2 : decide (s > 9999) = false := by simp; omega
    have h3 : decide ((l.length : Int) > 500) = true := by simp; omega
    go_enter Tryz.func22, Tryz.ntmps22
    go_wp2_with fail
    go_ret
    exact ⟨Told.f (fun e => hl e.2.2.1), (Below.refl _ _).alloc (Nat.le_refl _) _⟩

set_option maxRecDepth 100000 in
theorem span_any (s : Int) (ao : Option Addr) (l : List Int) (c : Nat) (s' : Int) (ao' : Option Addr) (l' : List Int) (c' : Nat) (w : World) (h : IntsAt w ao l) (h' : IntsAt w ao' l') :
    Calls Tryz.prog 7 #[.agg #[.int .i64 s, .slice ao l.length c, .int .i64 s', .slice ao' l'.length c']] w fun e w' => Told e (ProperL s l ∧ ProperL s' l') ∧ Below w.heap.size w w' := by
  have h0 : Hid (Below w.heap.size w (w.alloc (.cells #[.int .i64 s, .slice ao l.length c, .int .i64 s', .slice ao' l'.length c'] 26))) := (Below.refl _ _).alloc (Nat.le_refl _) _
  have H1 := Lib.hid h
  have H2 := Lib.hid h'
  clear h h'
  go_enter Tryz.func7, Tryz.ntmps7
  go_wp2_with fail
  refine (proper_any _ _ _ _ _ (H1.out.below h0.out)).mono ?_
  rintro e w2 ⟨⟨r, rfl, hr⟩, hb⟩
  have Hr := Lib.hid hr
  have hbx : w2.heap[w.heap.size]? = some (.cells #[.int .i64 s, .slice ao l.length c, .int .i64 s', .slice ao' l'.length c'] 26 (0, 0)) := by
    rw [hb.block w.heap.size (by simp)]; exact heap_alloc_new _ _
  have c2 := row_cell (l := [.int .i64 s, .slice ao l.length c, .int .i64 s', .slice ao' l'.length c']) hbx (j := 2) rfl
  have c3 := row_cell (l := [.int .i64 s, .slice ao l.length c, .int .i64 s', .slice ao' l'.length c']) hbx (j := 3) rfl
  have Hb : Hid (Below w.heap.size w w2) := h0.out.trans (hb.mono (by simp))
  clear hbx hb hr
  cases r
  · go_wp2_with fail
    go_ret
    exact ⟨Told.f (fun e => by have := Hr.out.2 e.1; cases this), Hb.out⟩
  · go_wp2_with fail
    refine (proper_any _ _ _ _ _ (H2.out.below Hb.out)).mono ?_
    rintro e w3 ⟨⟨r', rfl, hr'⟩, hb3⟩
    have Hr' := Lib.hid hr'
    clear hr'
    go_wp2_with fail
    go_ret
    exact ⟨⟨r', rfl, Hr'.out.trans ⟨fun e => ⟨Hr.out.1 (by trivial), e⟩, fun e => e.2⟩⟩, Hb.out.trans (hb3.mono Hb.out.size)⟩
end Go.Proofs.YtaloidnoeafgiaaGreatDoor
