/- the law FnCategories: its walk. -/
import Derived.Test.YtaloidnoeafgiaaDoorCategories
namespace Go.Proofs.YtaloidnoeafgiaaDoor
open Go.RowKit Go.Lib

set_option maxRecDepth 100000 in
set_option maxHeartbeats 4000000 in
theorem fnCategories_in (s : Nat) (hs : s ≤ 9999) (ao : Option Addr) (ns : List Nat) (c : Nat) (w : World) (hi : IntsAt w ao (ns.map Int.ofNat)) (hp : ProperL s (ns.map Int.ofNat)) (hg : CL.Gr ns) (h9 : ∀ x ∈ ns, x ≤ 9999) (hl : ns.length ≤ 500) (hne : ns ≠ []) (hT : Tabs w) :
    Calls Tryd.prog 4 #[.agg #[.int .i64 s, .slice ao ns.length c]] w fun e w' => e = .returned (.bool true) ∧ Below w.heap.size w w' := by
  have hx := heap_alloc_new w (.cells #[.int .i64 s, .slice ao ns.length c] 24)
  have HX : Hid (Below w.heap.size w (w.alloc (.cells #[.int .i64 s, .slice ao ns.length c] 24))) := (Below.refl _ _).alloc (Nat.le_refl _) _
  have Hn := Lib.hid hi.nats
  have Hg := Lib.hid hg
  have H9 := Lib.hid h9
  have Hne := Lib.hid hne
  have Ht := Lib.hid hT
  have Hp := Lib.hid hp
  have el : (ns.map Int.ofNat).length = ns.length := by simp
  have Hf := Lib.hid (fits2 s ao ns.length c)
  have hfd : decide (ns.length ≤ 2147483647) = true := by simp; omega
  rw [hfd] at Hf
  have Hsp := Lib.hid (fun W hb => proper_any s ao (ns.map Int.ofNat) c W (hi.below hb))
  rw [el] at Hsp
  have hl0 : ((ns.length : Int) == 0) = false := by
    have : ns.length ≠ 0 := fun e => hne (List.eq_nil_of_length_eq_zero e)
    simp; omega
  have Hx := Lib.hid hx
  clear hi hp hg h9 hne hT el hfd hx
  go_enter Tryd.func4, Tryd.ntmps4
  go_wp2_with fail
  refine (Hf.out _).mono ?_
  rintro e w3 ⟨rfl, hb3⟩
  have hrow : w3.heap[w.heap.size]? = some (.cells #[.int .i64 s, .slice ao ns.length c] 24 (0, 0)) := by
    rw [hb3.block w.heap.size (by simp)]; exact Hx.out
  have c0 := row_cell (l := [.int .i64 s, .slice ao ns.length c]) hrow (j := 0) rfl
  have c1 := row_cell (l := [.int .i64 s, .slice ao ns.length c]) hrow (j := 1) rfl
  have Hrow := Lib.hid hrow
  have HX : Hid (Below w.heap.size w w3) := HX.out.trans (hb3.mono (by simp))
  clear hb3 hrow Hf
  go_wp2_with fail
  refine (Hsp.out _ HX.out).mono ?_
  rintro e w4 ⟨⟨q, rfl, hq⟩, hb3⟩
  obtain rfl : q = true := hq.2 Hp.out
  have hrow : w4.heap[w.heap.size]? = some (.cells #[.int .i64 s, .slice ao ns.length c] 24 (0, 0)) := by
    rw [hb3.block w.heap.size (Array.getElem?_eq_some_iff.1 Hrow.out).1]; exact Hrow.out
  have c0 := row_cell (l := [.int .i64 s, .slice ao ns.length c]) hrow (j := 0) rfl
  have c1 := row_cell (l := [.int .i64 s, .slice ao ns.length c]) hrow (j := 1) rfl
  have f0 := row_free (l := [.int .i64 s, .slice ao ns.length c]) hrow 0
  have HX : Hid (Below w.heap.size w w4) := HX.out.trans (hb3.mono HX.out.size)
  have Hrow5 : Hid ((w4.setCell ⟨w.heap.size, 0, none⟩ (.int .i64 0)).heap[w.heap.size]? = some (.cells #[.int .i64 0, .slice ao ns.length c] 24 (0, 0))) := by
    show _ = _
    rw [heap_setCell_same _ _ _ _ _ _ hrow]; rfl
  have HX5 : Hid (Below w.heap.size w (w4.setCell ⟨w.heap.size, 0, none⟩ (.int .i64 0))) := HX.out.setCell (Nat.le_refl _) _
  have d1 := row_cell (l := [.int .i64 0, .slice ao ns.length c]) Hrow5.out (j := 1) rfl
  clear hb3 hrow hq Hsp Hp Hrow
  go_wp2_with fail
  refine (cats_spec ao ns c _ (Hn.out.below HX5.out) H9.out hl).mono ?_
  rintro e w3 ⟨t, rfl, ht, htz, hb3⟩
  have hrow : w3.heap[w.heap.size]? = some (.cells #[.int .i64 0, .slice ao ns.length c] 24 (0, 0)) := by
    rw [hb3.block w.heap.size (Array.getElem?_eq_some_iff.1 Hrow5.out).1]; exact Hrow5.out
  have hlt := (Array.getElem?_eq_some_iff.1 hrow).1
  have HX : Hid (Below w.heap.size w w3) := HX5.out.trans (hb3.mono HX5.out.size)
  have c0 := row_cell (l := [.int .i64 0, .slice ao ns.length c]) hrow (j := 0) rfl
  have c1 := row_cell (l := [.int .i64 0, .slice ao ns.length c]) hrow (j := 1) rfl
  clear hb3 hrow Hrow5 HX5 d1 f0
  go_wp2_with fail
  refine (implCats t ns _ (cat_toks t ns ht.out Hne.out Hg.out H9.out hl) _ (Ht.out.below HX.out)).mono ?_
  rintro e w3 ⟨got, rfl, hgot, hb3⟩
  have c0 := (hb3.cell (p := ⟨w.heap.size, 0, none⟩) hlt).trans c0
  have c1 := (hb3.cell (p := ⟨w.heap.size, 1, none⟩) hlt).trans c1
  have hlt := Nat.lt_of_lt_of_le hlt hb3.size
  have HX : Hid (Below w.heap.size w w3) := HX.out.trans (hb3.mono HX.out.size)
  clear hb3
  go_wp2_with fail
  refine (level_loose 0 (by decide) ao ns c _ (Hn.out.below HX.out) H9.out hl).mono ?_
  rintro e w3 ⟨u, rfl, hu, huz, hb3⟩
  have c0 := (hb3.cell (p := ⟨w.heap.size, 0, none⟩) hlt).trans c0
  have c1 := (hb3.cell (p := ⟨w.heap.size, 1, none⟩) hlt).trans c1
  have hlt := Nat.lt_of_lt_of_le hlt hb3.size
  have HX : Hid (Below w.heap.size w w3) := HX.out.trans (hb3.mono HX.out.size)
  clear hb3
  obtain ⟨hu3, hud⟩ := loose_drop u ns Hne.out hu.out
  have Hud := Lib.hid hud
  clear hud
  have hv1 : (3 : Int) ≤ (u.size : Int) := by omega
  go_wp2_with fail
  refine (implCats _ ns _ (cat_loose _ ns Hud.out Hne.out Hg.out H9.out hl) _ (Ht.out.below HX.out)).mono ?_
  rintro e w3 ⟨oth, rfl, hoth, hb3⟩
  obtain rfl : oth = got := bytes_ext (hoth.out.trans hgot.out.symm)
  have c0 := (hb3.cell (p := ⟨w.heap.size, 0, none⟩) hlt).trans c0
  have c1 := (hb3.cell (p := ⟨w.heap.size, 1, none⟩) hlt).trans c1
  have hlt := Nat.lt_of_lt_of_le hlt hb3.size
  have HX : Hid (Below w.heap.size w w3) := HX.out.trans (hb3.mono HX.out.size)
  clear hb3
  go_wp2_with fail
  refine (cats_spec ao ns c _ (Hn.out.below HX.out) H9.out hl).mono ?_
  rintro e w3 ⟨t2, rfl, ht2, htz2, hb3⟩
  obtain rfl : t2 = oth := bytes_ext (ht2.out.trans hgot.out.symm)
  have c0 := (hb3.cell (p := ⟨w.heap.size, 0, none⟩) hlt).trans c0
  have c1 := (hb3.cell (p := ⟨w.heap.size, 1, none⟩) hlt).trans c1
  have hlt := Nat.lt_of_lt_of_le hlt hb3.size
  have HX : Hid (Below w.heap.size w w3) := HX.out.trans (hb3.mono HX.out.size)
  clear hb3
  go_wp2_with fail
  refine (works_ok _ (Ht.out.below HX.out)).mono ?_
  rintro e w3 ⟨rfl, hb3⟩
  have HX : Hid (Below w.heap.size w w3) := HX.out.trans (hb3.mono HX.out.size)
  clear hb3
  go_wp2
  go_ret
  exact ⟨rfl, HX.out⟩

set_option maxRecDepth 100000 in
set_option maxHeartbeats 2000000 in
theorem fnCategories_walk (s : Int) (ao : Option Addr) (l : List Int) (c : Nat) (w : World) (h : IntsAt w ao l) (hT : Tabs w) :
    Calls Tryd.prog 4 #[.agg #[.int .i64 s, .slice ao l.length c]] w fun e w' => e = .returned (.bool true) ∧ Below w.heap.size w w' := by
  by_cases hp : ProperL s l ∧ l ≠ []
  · obtain ⟨hp, hne⟩ := hp
    obtain ⟨h1, h2, h3, h4⟩ := id hp
    obtain ⟨ns, rfl, hg, h9, _⟩ := grows_nats l (-1) (by omega) h4
    obtain ⟨k, rfl⟩ : ∃ k : Nat, s = k := ⟨s.toNat, by omega⟩
    have el : (ns.map Int.ofNat).length = ns.length := by simp
    rw [el]
    exact fnCategories_in k (by omega) ao ns c w h hp hg h9 (by omega) (fun e => hne (by rw [e]; rfl)) hT
  have hx := heap_alloc_new w (.cells #[.int .i64 s, .slice ao l.length c] 24)
  have HX : Hid (Below w.heap.size w (w.alloc (.cells #[.int .i64 s, .slice ao l.length c] 24))) := (Below.refl _ _).alloc (Nat.le_refl _) _
  have Hp := Lib.hid hp
  have Hf := Lib.hid (fits2 s ao l.length c)
  have Hsp := Lib.hid (fun W hb => proper_any s ao l c W (h.below hb))
  have Ht := Lib.hid hT
  have Hx := Lib.hid hx
  clear h hp hT hx
  by_cases hf : l.length ≤ 2147483647
  · have hfd : decide (l.length ≤ 2147483647) = true := by simp; omega
    rw [hfd] at Hf
    clear hf hfd
    go_enter Tryd.func4, Tryd.ntmps4
    go_wp2_with fail
    refine (Hf.out _).mono ?_
    rintro e w3 ⟨rfl, hb3⟩
    have hrow : w3.heap[w.heap.size]? = some (.cells #[.int .i64 s, .slice ao l.length c] 24 (0, 0)) := by
      rw [hb3.block w.heap.size (by simp)]; exact Hx.out
    have c0 := row_cell (l := [.int .i64 s, .slice ao l.length c]) hrow (j := 0) rfl
    have c1 := row_cell (l := [.int .i64 s, .slice ao l.length c]) hrow (j := 1) rfl
    have HX : Hid (Below w.heap.size w w3) := HX.out.trans (hb3.mono (by simp))
    have Hrow := Lib.hid hrow
    clear hb3 hrow Hf
    go_wp2_with fail
    refine (Hsp.out _ HX.out).mono ?_
    rintro e w4 ⟨⟨q, rfl, hq⟩, hb3⟩
    have hrow : w4.heap[w.heap.size]? = some (.cells #[.int .i64 s, .slice ao l.length c] 24 (0, 0)) := by
      rw [hb3.block w.heap.size (Array.getElem?_eq_some_iff.1 Hrow.out).1]; exact Hrow.out
    have c1 := row_cell (l := [.int .i64 s, .slice ao l.length c]) hrow (j := 1) rfl
    have HX : Hid (Below w.heap.size w w4) := HX.out.trans (hb3.mono HX.out.size)
    have Hq := Lib.hid hq
    clear hb3 hrow hq
    cases q
    · go_wp2_with fail
      refine (works_ok _ (Ht.out.below HX.out)).mono ?_
      rintro e w5 ⟨rfl, hb5⟩
      go_wp2
      go_ret
      exact ⟨rfl, HX.out.trans (hb5.mono HX.out.size)⟩
    · have hln : l.length = 0 := by
        by_cases hl : l = []
        · rw [hl]; rfl
        · exact absurd ⟨Hq.out.1 (by trivial), hl⟩ Hp.out
      have hl0 : ((l.length : Int) == 0) = true := by rw [hln]; rfl
      go_wp2_with fail
      refine (works_ok _ (Ht.out.below HX.out)).mono ?_
      rintro e w5 ⟨rfl, hb5⟩
      go_wp2
      go_ret
      exact ⟨rfl, HX.out.trans (hb5.mono HX.out.size)⟩
  · have hfd : decide (l.length ≤ 2147483647) = false := by simp; omega
    rw [hfd] at Hf
    clear hf hfd
    go_enter Tryd.func4, Tryd.ntmps4
    go_wp2_with fail
    refine (Hf.out _).mono ?_
    rintro e w3 ⟨rfl, hb3⟩
    go_wp2
    go_ret
    exact ⟨rfl, HX.out.trans (hb3.mono (by simp))⟩
end Go.Proofs.YtaloidnoeafgiaaDoor
