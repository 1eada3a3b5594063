/- the law FnBoundSelf: its walk. -/
import Derived.Test.YtaloidnoeafgiaaDoorRgOut
import Derived.Test.YtaloidnoeafgiaaDoorImplB
import Derived.Test.YtaloidnoeafgiaaDoorS4
import Derived.Deep.RegionHeld3
namespace Go.Proofs.YtaloidnoeafgiaaDoor
open Go.RowKit Go.Lib

/-- what a range has in common with itself is it -/
theorem bound_self (t : ByteArray) (s s' : Nat) (hs : s ≤ 9999) (hs' : s' ≤ 9999) (hss : s ≤ s') (ns ns' : List Nat) (hg : CL.Gr ns) (hg' : CL.Gr ns') (h9 : ∀ x ∈ ns, x ≤ 9999) (h9' : ∀ x ∈ ns', x ≤ 9999) (hl : ns.length ≤ 500) (hl' : ns'.length ≤ 500) (ht : t.data.toList = spanT s ns s' ns') :
    BoundAs t t (fun r => r = t) := by
  obtain ⟨a, c, hr, hla, hlc⟩ := span_reads t s s' hs hs' ns ns' hg hg' h9 h9' hl hl' ht
  intro w hT
  refine (glb_ok t t a c a c ns ns' ns ns' hr hr hla.mem hlc.mem hla.mem hlc.mem (by rw [hla.sens]; exact hs) (by rw [hlc.sens]; exact hs') (by rw [hla.sens]; exact hs) (by rw [hlc.sens]; exact hs') (by rw [hla.sens, hlc.sens]; omega) (by rw [hla.sens, hlc.sens]; omega) w hT).mono ?_
  rintro e w' ⟨r, rfl, ho, hb⟩
  refine ⟨r, rfl, bytes_ext ?_, hb⟩
  rw [ht]
  have e1 : max a.sens a.sens = s := by rw [hla.sens]; omega
  have e2 : min c.sens c.sens = s' := by rw [hlc.sens]; omega
  rw [e1, e2, comL_self, comL_self] at ho
  exact range_out (lv_both hla) (lv_both hlc) ho

set_option maxRecDepth 100000 in
set_option maxHeartbeats 4000000 in
theorem fnBoundSelf_in (s s' : Nat) (hs : s ≤ 9999) (hs' : s' ≤ 9999) (hss : s ≤ s') (ao : Option Addr) (ns : List Nat) (c : Nat) (ao' : Option Addr) (ns' : List Nat) (c' : Nat) (w : World) (h : NatsAt w ao ns) (h' : NatsAt w ao' ns') (hi : IntsAt w ao (ns.map Int.ofNat)) (hi' : IntsAt w ao' (ns'.map Int.ofNat)) (hp : ProperL s (ns.map Int.ofNat) ∧ ProperL s' (ns'.map Int.ofNat)) (hg : CL.Gr ns) (hg' : CL.Gr ns') (h9 : ∀ x ∈ ns, x ≤ 9999) (h9' : ∀ x ∈ ns', x ≤ 9999) (hl : ns.length ≤ 500) (hl' : ns'.length ≤ 500) (hT : Tabs w) :
    Calls Tryd.prog 9 #[.agg #[.int .i64 s, .slice ao ns.length c, .int .i64 s', .slice ao' ns'.length c']] w fun e w' => e = .returned (.bool true) ∧ Below w.heap.size w w' := by
  have H0 : Hid (Below w.heap.size w (w.alloc (.cells #[.int .i64 s, .slice ao ns.length c, .int .i64 s', .slice ao' ns'.length c'] 26))) := (Below.refl _ _).alloc (Nat.le_refl _) _
  have Hp := Lib.hid hp
  have Ht := Lib.hid hT
  obtain ⟨tT, htT⟩ : ∃ t : ByteArray, t.data.toList = spanT s ns s' ns' := ⟨⟨(spanT s ns s' ns').toArray⟩, rfl⟩
  have HTx := Lib.hid (fun (W : World) (hb : Below w.heap.size w W) => (span_text s s' hs hs' ao ns c ao' ns' c' W (h.below hb) (h'.below hb) h9 h9' hl hl').mono (R' := fun e w' => e = .returned (.string tT) ∧ Below W.heap.size W w') (by rintro e w' ⟨r, rfl, hr, _, hb'⟩; obtain rfl : r = tT := bytes_ext (hr.out.trans htT.symm); exact ⟨rfl, hb'⟩))
  have HBd := Lib.hid (fun (W : World) (hW : Tabs W) => (implBound tT tT (fun r => r = tT) (bound_self tT s s' hs hs' hss ns ns' hg hg' h9 h9' hl hl' htT) W hW).mono (R' := fun e w' => e = .returned (.tuple #[.string tT, .bool true]) ∧ Below W.heap.size W w') (by rintro e w' ⟨r, rfl, hr, hb'⟩; obtain rfl : r = tT := hr.out; exact ⟨rfl, hb'⟩))
  have el : (ns.map Int.ofNat).length = ns.length := by simp
  have el' : (ns'.map Int.ofNat).length = ns'.length := by simp
  have Hf := Lib.hid (fits1 s ao ns.length c s' ao' ns'.length c')
  have hfd : decide (ns.length ≤ 2147483647 ∧ ns'.length ≤ 2147483647) = true := by simp; omega
  rw [hfd] at Hf
  have Hsp := Lib.hid (fun W hb => span_any s ao (ns.map Int.ofNat) c s' ao' (ns'.map Int.ofNat) c' W (hi.below hb) (hi'.below hb))
  rw [el, el'] at Hsp
  have hgt : decide ((s : Int) > (s' : Int)) = false := by simp; omega
  have hgtn : decide (s' < s) = false := decide_eq_false (by omega)
  clear h h' hi hi' hp hg hg' h9 h9' hT el el' hfd htT hss
  go_enter Tryd.func9, Tryd.ntmps9
  go_wp2_with fail
  refine (Hf.out _).mono ?_
  rintro e w2 ⟨rfl, hb2⟩
  have hbx : w2.heap[w.heap.size]? = some (.cells #[.int .i64 s, .slice ao ns.length c, .int .i64 s', .slice ao' ns'.length c'] 26 (0, 0)) := by
    rw [hb2.block w.heap.size (by simp)]; exact heap_alloc_new _ _
  have c0 := row_cell (l := [.int .i64 s, .slice ao ns.length c, .int .i64 s', .slice ao' ns'.length c']) hbx (j := 0) rfl
  have c1 := row_cell (l := [.int .i64 s, .slice ao ns.length c, .int .i64 s', .slice ao' ns'.length c']) hbx (j := 1) rfl
  have c2 := row_cell (l := [.int .i64 s, .slice ao ns.length c, .int .i64 s', .slice ao' ns'.length c']) hbx (j := 2) rfl
  have c3 := row_cell (l := [.int .i64 s, .slice ao ns.length c, .int .i64 s', .slice ao' ns'.length c']) hbx (j := 3) rfl
  have hlt : w.heap.size < w2.heap.size := (Array.getElem?_eq_some_iff.1 hbx).1
  have HX : Hid (Below w.heap.size w w2) := H0.out.trans (hb2.mono (by simp))
  clear hb2 hbx H0 Hf
  go_wp2_with fail
  refine (Hsp.out _ HX.out).mono ?_
  rintro e w3 ⟨⟨q, rfl, hq⟩, hb3⟩
  obtain rfl : q = true := hq.2 Hp.out
  have c0 := (hb3.cell (p := ⟨w.heap.size, 0, none⟩) hlt).trans c0
  have c1 := (hb3.cell (p := ⟨w.heap.size, 1, none⟩) hlt).trans c1
  have c2 := (hb3.cell (p := ⟨w.heap.size, 2, none⟩) hlt).trans c2
  have c3 := (hb3.cell (p := ⟨w.heap.size, 3, none⟩) hlt).trans c3
  have hlt := Nat.lt_of_lt_of_le hlt hb3.size
  have HX : Hid (Below w.heap.size w w3) := HX.out.trans (hb3.mono HX.out.size)
  clear hq hb3
  go_upto_region 5 with fail
  go_cut [3, 4] from 5 (fun s3 s4 wc => s3 = .string tT ∧ s4 = .bool true ∧ Below w3.heap.size w3 wc)
  case first =>
    have HB3 : Below w3.heap.size w3 w3 := Below.refl _ _
    have HS : Hid (S4 w3 w.heap.size (.int .i64 s) (.slice ao ns.length c) (.int .i64 s') (.slice ao' ns'.length c') w3) := ⟨c0, c1, c2, c3, HB3⟩
    go_region_held3 (fun W => W.cell? ⟨w.heap.size, 0, none⟩ = some (.int .i64 s) ∧ W.cell? ⟨w.heap.size, 1, none⟩ = some (.slice ao ns.length c) ∧ W.cell? ⟨w.heap.size, 2, none⟩ = some (.int .i64 s') ∧ W.cell? ⟨w.heap.size, 3, none⟩ = some (.slice ao' ns'.length c') ∧ Below w3.heap.size w3 W)
      (first | exact S4.keep hlt HS.out HB3 | exact S4.keep hlt HS.out HB3.drew)
      (first
        | (go_at_call 14; (first | (with_reducible refine (HTx.out _ (HX.out.trans (HB3.mono HX.out.size))).mono ?_) | (with_reducible refine (HTx.out _ (HX.out.trans (HB3.drew.mono HX.out.size))).mono ?_)); rintro e w4 ⟨rfl, hb4⟩; have HB3 := bl_step hb4 (by first | (with_reducible exact HB3) | (with_reducible exact HB3.drew)); have hs4 := (S4.keep hlt HS.out HB3).parts; have c0 := hs4.1; have c1 := hs4.2.1; have c2 := hs4.2.2.1; have c3 := hs4.2.2.2)
        | (go_at_call 35; (first | (with_reducible refine (HBd.out _ (Ht.out.below (HX.out.trans (HB3.mono HX.out.size)))).mono ?_) | (with_reducible refine (HBd.out _ (Ht.out.below (HX.out.trans (HB3.drew.mono HX.out.size)))).mono ?_)); rintro e w4 ⟨rfl, hb4⟩; have HB3 := bl_step hb4 (by first | (with_reducible exact HB3) | (with_reducible exact HB3.drew)); have hs4 := (S4.keep hlt HS.out HB3).parts; have c0 := hs4.1; have c1 := hs4.2.1; have c2 := hs4.2.2.1; have c3 := hs4.2.2.2))
    all_goals go_wp2_with fail
    all_goals go_meet
    all_goals (case rel => exact ⟨rfl, rfl, HB3⟩)
  case rest =>
    obtain ⟨rfl, rfl, hbc⟩ := hcut
    have hs4 := (S4.keep hlt ⟨c0, c1, c2, c3, Below.refl _ _⟩ hbc).parts
    have c0 := hs4.1
    have c1 := hs4.2.1
    have c2 := hs4.2.2.1
    have c3 := hs4.2.2.2
    have HX : Hid (Below w.heap.size w wc) := HX.out.trans (hbc.mono HX.out.size)
    clear hs4 hbc
    go_wp2_with fail
    refine (HTx.out _ HX.out).mono ?_
    rintro e w4 ⟨rfl, hb4⟩
    have HX : Hid (Below w.heap.size w w4) := HX.out.trans (hb4.mono HX.out.size)
    clear hb4
    go_wp2_with fail
    refine (works_ok _ (Ht.out.below HX.out)).mono ?_
    rintro e w5 ⟨rfl, hb5⟩
    go_wp2
    go_ret
    exact ⟨rfl, HX.out.trans (hb5.mono HX.out.size)⟩

set_option maxRecDepth 100000 in
set_option maxHeartbeats 2000000 in
theorem fnBoundSelf_walk (s s' : Int) (ao : Option Addr) (l : List Int) (c : Nat) (ao' : Option Addr) (l' : List Int) (c' : Nat) (w : World) (h : IntsAt w ao l) (h' : IntsAt w ao' l') (hT : Tabs w) :
    Calls Tryd.prog 9 #[.agg #[.int .i64 s, .slice ao l.length c, .int .i64 s', .slice ao' l'.length c']] w fun e w' => e = .returned (.bool true) ∧ Below w.heap.size w w' := by
  by_cases hp : (ProperL s l ∧ ProperL s' l') ∧ s ≤ s'
  · obtain ⟨⟨h1, h2, h3, h4⟩, h1', h2', h3', h4'⟩ := id hp.1
    obtain ⟨ns, rfl, hg, h9, _⟩ := grows_nats l (-1) (by omega) h4
    obtain ⟨ns', rfl, hg', h9', _⟩ := grows_nats l' (-1) (by omega) h4'
    obtain ⟨k, rfl⟩ : ∃ k : Nat, s = k := ⟨s.toNat, by omega⟩
    obtain ⟨k', rfl⟩ : ∃ k : Nat, s' = k := ⟨s'.toNat, by omega⟩
    have el : (ns.map Int.ofNat).length = ns.length := by simp
    have el' : (ns'.map Int.ofNat).length = ns'.length := by simp
    rw [el, el']
    exact fnBoundSelf_in k k' (by omega) (by omega) (by have := hp.2; omega) ao ns c ao' ns' c' w h.nats h'.nats h h' hp.1 hg hg' h9 h9' (by omega) (by omega) hT
  have H0 : Hid (Below w.heap.size w (w.alloc (.cells #[.int .i64 s, .slice ao l.length c, .int .i64 s', .slice ao' l'.length c'] 26))) := (Below.refl _ _).alloc (Nat.le_refl _) _
  have Hp := Lib.hid hp
  have Hf := Lib.hid (fits1 s ao l.length c s' ao' l'.length c')
  have Hsp := Lib.hid (fun W hb => span_any s ao l c s' ao' l' c' W (h.below hb) (h'.below hb))
  have Ht := Lib.hid hT
  clear h h' hp hT
  by_cases hf : l.length ≤ 2147483647 ∧ l'.length ≤ 2147483647
  · have hfd : decide (l.length ≤ 2147483647 ∧ l'.length ≤ 2147483647) = true := by simp; omega
    rw [hfd] at Hf
    clear hf hfd
    go_enter Tryd.func9, Tryd.ntmps9
    go_wp2_with fail
    refine (Hf.out _).mono ?_
    rintro e w2 ⟨rfl, hb2⟩
    have hbx : w2.heap[w.heap.size]? = some (.cells #[.int .i64 s, .slice ao l.length c, .int .i64 s', .slice ao' l'.length c'] 26 (0, 0)) := by
      rw [hb2.block w.heap.size (by simp)]; exact heap_alloc_new _ _
    have hlt : w.heap.size < w2.heap.size := (Array.getElem?_eq_some_iff.1 hbx).1
    have c0 := row_cell (l := [.int .i64 s, .slice ao l.length c, .int .i64 s', .slice ao' l'.length c']) hbx (j := 0) rfl
    have c1 := row_cell (l := [.int .i64 s, .slice ao l.length c, .int .i64 s', .slice ao' l'.length c']) hbx (j := 1) rfl
    have c2 := row_cell (l := [.int .i64 s, .slice ao l.length c, .int .i64 s', .slice ao' l'.length c']) hbx (j := 2) rfl
    have c3 := row_cell (l := [.int .i64 s, .slice ao l.length c, .int .i64 s', .slice ao' l'.length c']) hbx (j := 3) rfl
    have HX : Hid (Below w.heap.size w w2) := H0.out.trans (hb2.mono (by simp))
    clear hb2 hbx H0 Hf
    go_wp2_with fail
    refine (Hsp.out _ HX.out).mono ?_
    rintro e w3 ⟨⟨q, rfl, hq⟩, hb3⟩
    have c0 := (hb3.cell (p := ⟨w.heap.size, 0, none⟩) hlt).trans c0
    have c2 := (hb3.cell (p := ⟨w.heap.size, 2, none⟩) hlt).trans c2
    have HY : Hid (Below w.heap.size w w3) := HX.out.trans (hb3.mono HX.out.size)
    cases q with
    | false =>
      clear hq hb3
      go_wp2_with fail
      refine (works_ok _ (Ht.out.below HY.out)).mono ?_
      rintro e w4 ⟨rfl, hb4⟩
      go_wp2
      go_ret
      exact ⟨rfl, HY.out.trans (hb4.mono HY.out.size)⟩
    | true =>
      have hgt : decide (s > s') = true := decide_eq_true (Int.not_le.1 fun h => Hp.out ⟨hq.1 rfl, h⟩)
      have hgtn : decide (s' < s) = true := hgt
      clear hq hb3
      go_wp2_with fail
      refine (works_ok _ (Ht.out.below HY.out)).mono ?_
      rintro e w4 ⟨rfl, hb4⟩
      go_wp2
      go_ret
      exact ⟨rfl, HY.out.trans (hb4.mono HY.out.size)⟩
  · have hfd : decide (l.length ≤ 2147483647 ∧ l'.length ≤ 2147483647) = false := by simp; omega
    rw [hfd] at Hf
    clear hf hfd
    go_enter Tryd.func9, Tryd.ntmps9
    go_wp2_with fail
    refine (Hf.out _).mono ?_
    rintro e w2 ⟨rfl, hb2⟩
    go_wp2
    go_ret
    exact ⟨rfl, H0.out.trans (hb2.mono (by simp))⟩
end Go.Proofs.YtaloidnoeafgiaaDoor
