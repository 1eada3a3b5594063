/- spec.Span.Text, and a range of two loose levels. -/
import Derived.Test.YtaloidnoeafgiaaGreatDoorSpec5
namespace Go.Proofs.YtaloidnoeafgiaaGreatDoor
open Go.RowKit Go.Lib

/-- the text of a range -/
def spanT (s : Nat) (ns : List Nat) (s' : Nat) (ns' : List Nat) : List UInt8 :=
  if s = s' ∧ ns = ns' then CL.lvT s (CL.toksOf ns) else CL.lvT s (CL.toksOf ns) ++ 45 :: CL.lvT s' (CL.toksOf ns')

set_option maxRecDepth 100000 in
set_option maxHeartbeats 2000000 in
theorem span_text (s s' : Nat) (hs : s ≤ 9999) (hs' : s' ≤ 9999) (ao : Option Addr) (ns : List Nat) (c : Nat) (ao' : Option Addr) (ns' : List Nat) (c' : Nat) (w : World) (h : NatsAt w ao ns) (h' : NatsAt w ao' ns') (h9 : ∀ x ∈ ns, x ≤ 9999) (h9' : ∀ x ∈ ns', x ≤ 9999) (hl : ns.length ≤ 500) (hl' : ns'.length ≤ 500) :
    Calls Tryz.prog 11 #[.agg #[.int .i64 s, .slice ao ns.length c, .int .i64 s', .slice ao' ns'.length c']] w fun e w' => ∃ r : ByteArray, e = .returned (.string r) ∧ Hid (r.data.toList = spanT s ns s' ns') ∧ r.size ≤ 30040001 ∧ Below w.heap.size w w' := by
  have H0 : Hid (Below w.heap.size w (w.alloc (.cells #[.int .i64 s, .slice ao ns.length c, .int .i64 s', .slice ao' ns'.length c'] 26))) := (Below.refl _ _).alloc (Nat.le_refl _) _
  have Hn := Lib.hid h
  have Hn' := Lib.hid h'
  have HA := Lib.hid (fun (W : World) (hb : Below w.heap.size w W) => level_text s hs ao ns c W (h.below hb) h9 hl)
  have H9 := Lib.hid h9
  have H9' := Lib.hid h9'
  have HB := Lib.hid (fun (W : World) (hb : Below w.heap.size w W) => level_text s' hs' ao' ns' c' W (h'.below hb) h9' hl')
  clear h h' h9 h9'
  go_enter Tryz.func11, Tryz.ntmps11
  go_wp2_with fail
  refine (same_any s s' ao ns c ao' ns' c' _ (Hn.out.below H0.out) (Hn'.out.below H0.out) hl).mono ?_
  rintro e w2 ⟨⟨q, rfl, hq⟩, hb2⟩
  have Hq := Lib.hid hq
  have hbx : w2.heap[w.heap.size]? = some (.cells #[.int .i64 s, .slice ao ns.length c, .int .i64 s', .slice ao' ns'.length c'] 26 (0, 0)) := by
    rw [hb2.block w.heap.size (by simp)]; exact heap_alloc_new _ _
  have c0 := row_cell (l := [.int .i64 s, .slice ao ns.length c, .int .i64 s', .slice ao' ns'.length c']) hbx (j := 0) rfl
  have c1 := row_cell (l := [.int .i64 s, .slice ao ns.length c, .int .i64 s', .slice ao' ns'.length c']) hbx (j := 1) rfl
  have c2 := row_cell (l := [.int .i64 s, .slice ao ns.length c, .int .i64 s', .slice ao' ns'.length c']) hbx (j := 2) rfl
  have c3 := row_cell (l := [.int .i64 s, .slice ao ns.length c, .int .i64 s', .slice ao' ns'.length c']) hbx (j := 3) rfl
  have hlt : w.heap.size < w2.heap.size := (Array.getElem?_eq_some_iff.1 hbx).1
  have Hb : Hid (Below w.heap.size w w2) := H0.out.trans (hb2.mono (by simp))
  clear hb2 hbx hq
  cases q
  · go_wp2
    go_region_with ((go_at_call 29; refine (level_text _ (by with_reducible assumption) _ _ _ _ (by first | (with_reducible exact Hn.out.below HX.out) | (with_reducible exact Hn'.out.below HX.out) | (with_reducible exact Hn.out.below HX.out.drew) | (with_reducible exact Hn'.out.below HX.out.drew) | (with_reducible exact Hn.out.below Hb.out) | (with_reducible exact Hn'.out.below Hb.out) | (with_reducible exact Hn.out.below Hb.out.drew) | (with_reducible exact Hn'.out.below Hb.out.drew)) (by first | (with_reducible exact H9.out) | (with_reducible exact H9'.out)) (by with_reducible assumption)).mono ?_; rintro e w3 ⟨r, rfl, hr, hz, hb3⟩; (first | have hrA : Hid (r.data.toList = CL.lvT s (CL.toksOf ns)) := (by with_reducible exact hr) | have hrB : Hid (r.data.toList = CL.lvT s' (CL.toksOf ns')) := (by with_reducible exact hr)); have c0 := (hb3.cell (p := ⟨w.heap.size, 0, none⟩) hlt).trans c0; have c1 := (hb3.cell (p := ⟨w.heap.size, 1, none⟩) hlt).trans c1; have c2 := (hb3.cell (p := ⟨w.heap.size, 2, none⟩) hlt).trans c2; have c3 := (hb3.cell (p := ⟨w.heap.size, 3, none⟩) hlt).trans c3; have hlt := Nat.lt_of_lt_of_le hlt hb3.size; have HX : Hid (Below w.heap.size w w3) := (by first | exact HX.out.trans (hb3.mono HX.out.size) | exact HX.out.drew.trans (hb3.mono HX.out.size) | exact Hb.out.drew.trans (hb3.mono Hb.out.size) | exact Hb.out.trans (hb3.mono Hb.out.size))))
    all_goals go_wp2
    all_goals go_ret
    all_goals
      refine ⟨_, rfl, ?_, ?_, HX.out⟩
      · show _ = _
        rw [app_bytes, app_bytes, hrA.out, hrB.out, spanT, if_neg (fun e => by have := Hq.out.2 e; cases this)]
        simp
      · rw [ByteArray.size_append, ByteArray.size_append]; show _ + 1 + _ ≤ _; omega
  · go_wp2_with fail
    refine (HA.out _ Hb.out).mono ?_
    rintro e w3 ⟨r, rfl, hr, hz, hb3⟩
    go_wp2_with fail
    go_ret
    refine ⟨r, rfl, ?_, Nat.le_trans hz (by decide), Hb.out.trans (hb3.mono Hb.out.size)⟩
    show _ = _
    rw [hr.out, spanT, if_pos (Hq.out.1 (by trivial))]
end Go.Proofs.YtaloidnoeafgiaaGreatDoor
