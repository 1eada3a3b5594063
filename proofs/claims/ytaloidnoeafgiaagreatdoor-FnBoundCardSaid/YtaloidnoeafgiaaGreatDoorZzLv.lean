/- ZZLevels: the levels of a text. -/
import Derived.Test.YtaloidnoeafgiaaGreatDoorLvCats
import Derived.Deep.RegionHeld3
namespace Go.Proofs.YtaloidnoeafgiaaGreatDoor
open Go.RowKit Go.Lib

/-- the numbers that a value holds as a slice of ints, in a world -/
def IntsVal (W : World) (v : Value) (ns : List Nat) : Prop := ∃ (ao : Option Addr) (c : Nat), v = .slice ao ns.length c ∧ NatsAt W ao ns ∧ ((ao = none ∧ ns = []) ∨ ∃ g, ao = some ⟨g, 0, none⟩)

theorem ints_of_own {W : World} {B : Nat} {v : Value} {ns : List Nat} (h : W.ownsRow B 3 1 v ns.length (intsV ns)) : IntsVal W v ns := by
  rcases h.2 with ⟨rfl, h0⟩ | ⟨g, cap, cur, he, hg, hh, _⟩
  · have e : ns = [] := List.eq_nil_of_length_eq_zero h0
    subst e
    exact ⟨none, 0, rfl, fun i hi => absurd hi (by simp), Or.inl ⟨rfl, rfl⟩⟩
  · subst he
    refine ⟨some ⟨g, 0, none⟩, cap, rfl, fun i hi => ⟨_, rfl, (Array.getElem?_eq_some_iff.1 hh).1, ?_⟩, Or.inr ⟨g, rfl⟩⟩
    have e : (⟨g, 0, none⟩ : Addr).add i = ⟨g, i, none⟩ := by
      unfold Addr.add
      split
      · rename_i h0; rw [h0]
      · simp
    rw [e, h.cellAt i (by omega)]
    simp [intsV, List.getD, List.getElem?_eq_getElem hi]

theorem IntsVal.below {W W' : World} {v : Value} {ns : List Nat} (h : IntsVal W v ns) (hb : Below W.heap.size W W') : IntsVal W' v ns := by
  obtain ⟨ao, c, h1, h2, h3⟩ := h
  exact ⟨ao, c, h1, h2.below hb, h3⟩

theorem results_tmp5 {fn : Func} {t u v x y : Tmp} (h : fn.results = #[.tmp t, .tmp u, .tmp v, .tmp x, .tmp y]) (tmps : Array Value) (P : Program) (w : World) :
    (results fn tmps).run P w = .ok (.tuple #[tmps.getD t undef, tmps.getD u undef, tmps.getD v undef, tmps.getD x undef, tmps.getD y undef]) w := by
  simp [results, h]

theorem LvAt'.below {W W' : World} {lb : Nat} {a : Lvd} (h : LvAt' W lb a) (hb : Below W.heap.size W W') : LvAt' W' lb a := LvAt.below h hb

set_option maxRecDepth 100000 in
set_option maxHeartbeats 4000000 in
theorem zzlevels (s : ByteArray) (a c : Lvd) (l k : List Nat) (hr : ReadsAs s a c) (ha : Mem a l) (hc : Mem c k) (hl : l.length ≤ 500) (hk : k.length ≤ 500) (w : World) :
    Calls Tryz.prog 31 #[.string s] w fun e w' => ∃ v u : Value, e = .returned (.tuple #[.int .i64 a.sens, v, .int .i64 c.sens, u, .nilIface]) ∧ IntsVal w' v l ∧ IntsVal w' u k ∧ Below w.heap.size w w' := by
  have Hr := Lib.hid hr
  have Ha := Lib.hid ha
  have Hc := Lib.hid hc
  clear hr ha hc
  go_enter Tryz.func31, Tryz.ntmps31
  go_wp2_with fail
  refine (Hr.out _).mono ?_
  rintro e w2 ⟨rb, rfl, ⟨lb, hb, hrow, hla, hlc⟩, hb2⟩
  have Hla := Lib.hid hla
  have Hlc := Lib.hid hlc
  have Hb := Lib.hid hb2
  obtain ⟨p, hp⟩ := lv_row hla
  obtain ⟨p', hp'⟩ := lv_row hlc
  have c0 := row_cell (l := [.pointer (some ⟨lb, 0, none⟩), .pointer (some ⟨hb, 0, none⟩)]) hrow (j := 0) rfl
  have c1 := row_cell (l := [.pointer (some ⟨lb, 0, none⟩), .pointer (some ⟨hb, 0, none⟩)]) hrow (j := 1) rfl
  have d0 := row_cell (l := [p, .int .i64 a.sens]) hp (j := 1) rfl
  have d1 := row_cell (l := [p', .int .i64 c.sens]) hp' (j := 1) rfl
  have c00 := c0
  have c11 := c1
  have d00 := d0
  have d11 := d1
  have l0 := (Array.getElem?_eq_some_iff.1 hrow).1
  have l1 := (Array.getElem?_eq_some_iff.1 hp).1
  have l2 := (Array.getElem?_eq_some_iff.1 hp').1
  clear hla hlc hb2 hrow hp hp'
  go_wp2_with fail
  go_region_held3 (fun W => W.cell? ⟨rb, 0, none⟩ = some (.pointer (some ⟨lb, 0, none⟩)) ∧ W.cell? ⟨rb, 1, none⟩ = some (.pointer (some ⟨hb, 0, none⟩)) ∧ W.cell? ⟨lb, 1, none⟩ = some (.int .i64 a.sens) ∧ W.cell? ⟨hb, 1, none⟩ = some (.int .i64 c.sens) ∧ Below w2.heap.size w2 W)
    (first | exact ⟨c0, c1, d0, d1, HB3⟩ | exact ⟨c0, c1, d0, d1, (Below.refl _ w2).drew⟩)
    (first | (go_at_call 48; refine (lvCats_any _ _ _ _ (by first | (with_reducible exact Hla.out.below HB3) | (with_reducible exact Hlc.out.below HB3) | (with_reducible exact Hla.out.below ((Below.refl _ w2).drew)) | (with_reducible exact Hlc.out.below ((Below.refl _ w2).drew))) (by first | (with_reducible exact Ha.out) | (with_reducible exact Hc.out)) (by with_reducible assumption)).mono ?_; rintro e w3 ⟨v, rfl, hown, hb3⟩; (first | have hA : IntsVal w3 v l := (by with_reducible exact ints_of_own hown) | have hC : IntsVal w3 v k := (by with_reducible exact ints_of_own hown)); have HB3 : Below w2.heap.size w2 w3 := (by first | exact HB3.trans (hb3.mono HB3.size) | exact ((Below.refl _ w2).drew).trans (hb3.mono (Nat.le_refl _))); have c0 := (HB3.cell (p := ⟨rb, 0, none⟩) l0).trans c00; have c1 := (HB3.cell (p := ⟨rb, 1, none⟩) l0).trans c11; have d0 := (HB3.cell (p := ⟨lb, 1, none⟩) l1).trans d00; have d1 := (HB3.cell (p := ⟨hb, 1, none⟩) l2).trans d11))
  all_goals go_wp2
  all_goals (try simp only [Exit.inBlock, Exit.then])
  all_goals refine bodyPost_ret (results_tmp5 rfl _ _ _) rfl ?_
  all_goals exact ⟨_, _, rfl, (by first | exact hA | exact hA.below hb3), (by first | exact hC | exact hC.below hb3), Hb.out.trans (HB3.mono Hb.out.size)⟩
end Go.Proofs.YtaloidnoeafgiaaGreatDoor
