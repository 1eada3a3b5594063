/- mlsRange.String: a range's text. -/
import Derived.Test.YtdmggcbbfljciaaGreatDoorLvEq
namespace Go.Proofs.YtdmggcbbfljciaaGreatDoor
open Go.RowKit

/-- a level has the members of a list that grows -/
def Mem (a : Lvd) (l : List Nat) : Prop := CL.Gr l ∧ ∀ x, a.P x ↔ x ∈ l

/-- a range's text, of one level or of two -/
def rgT (q : Bool) (a c : Lvd) (l k : List Nat) : List UInt8 := if q then CL.lvT a.sens (CL.toksOf l) else CL.lvT a.sens (CL.toksOf l) ++ 45 :: CL.lvT c.sens (CL.toksOf k)

theorem lv_row {W : World} {lb : Nat} {a : Lvd} (h : LvAt' W lb a) : ∃ p, W.heap[lb]? = some (.cells #[p, .int .i64 a.sens] 143 (0, 0)) := by
  rcases h with ⟨_, h, _⟩ | ⟨_, b, B, ws, h, _⟩
  · exact ⟨_, h⟩
  · exact ⟨_, h⟩

set_option maxRecDepth 100000 in
set_option maxHeartbeats 8000000 in
theorem string_any (lb hb : Nat) (a c : Lvd) (l k : List Nat) (ha : Mem a l) (hc : Mem c k) (w : World) (hla : LvAt' w lb a) (hlc : LvAt' w hb c) (hT : Tabs w) (hsa : a.sens ≤ 9999) (hsc : c.sens ≤ 9999) :
    Calls Tryz.prog 52 #[.agg #[.pointer (some ⟨lb, 0, none⟩), .pointer (some ⟨hb, 0, none⟩)]] w fun e w' => ∃ r : ByteArray, ∃ q : Bool, e = .returned (.string r) ∧ EqIs q a c ∧ r.data.toList = rgT q a c l k ∧ Below w.heap.size w w' := by
  have Ha : Hid (LvAt' w lb a) := hla
  have Hc : Hid (LvAt' w hb c) := hlc
  have hb0 : Below w.heap.size w (w.alloc (.cells #[.pointer (some ⟨lb, 0, none⟩), .pointer (some ⟨hb, 0, none⟩)] 140)) := (Below.refl _ _).alloc (Nat.le_refl _) _
  obtain ⟨p, hp⟩ := lv_row (LvAt.below hla hb0)
  have c1 := row_cell (l := [p, .int .i64 a.sens]) hp (j := 1) rfl
  have hbox := Lib.hid (heap_alloc_new w (.cells #[.pointer (some ⟨lb, 0, none⟩), .pointer (some ⟨hb, 0, none⟩)] 140))
  have Hb0 := Lib.hid hb0
  have Hl : Hid (CL.Gr l) := ha.1
  have Hk : Hid (CL.Gr k) := hc.1
  have Hl' : Hid (∀ x, a.P x ↔ x ∈ l) := ha.2
  have Hk' : Hid (∀ x, c.P x ↔ x ∈ k) := hc.2
  have Ht : Hid (Tabs w) := hT
  clear hla hlc hp hb0 ha hc hT
  go_enter Tryz.func52, Tryz.ntmps52
  go_wp2_with fail
  refine (itoa_nat a.sens _ rfl (by omega) _ (Ht.out.below Hb0.out)).mono ?_
  rintro e wc ⟨r1, rfl, hr1, hz1, hb1⟩
  have Hb1 : Hid (Below w.heap.size w wc) := Hb0.out.trans (hb1.mono (by simp))
  have hbx : wc.heap[w.heap.size]? = some (.cells #[.pointer (some ⟨lb, 0, none⟩), .pointer (some ⟨hb, 0, none⟩)] 140 (0, 0)) := by
    rw [hb1.block w.heap.size (by simp)]; exact hbox.out
  have b0 := row_cell (l := [.pointer (some ⟨lb, 0, none⟩), .pointer (some ⟨hb, 0, none⟩)]) hbx (j := 0) rfl
  have b1 := row_cell (l := [.pointer (some ⟨lb, 0, none⟩), .pointer (some ⟨hb, 0, none⟩)]) hbx (j := 1) rfl
  have Hbx := Lib.hid hbx
  clear c1 hbx hb1
  have Hlo : Hid (∃ lo : ByteArray, lo = ⟨#[115]⟩ ++ r1 ∧ lo.data.toList = 115 :: Lib.decDigits a.sens ∧ lo.size ≤ 300000 * 128000 + 20004) := ⟨_, rfl, by rw [app_bytes, hr1.out]; rfl, by rw [ByteArray.size_append]; show 1 + _ ≤ _; omega⟩
  rcases LvAt.below Ha.out Hb1.out with ⟨h1, h2, h3⟩ | ⟨h1, b, B, ws, h2, h3, h4⟩
  · have c0 := row_cell (l := [.pointer none, .int .i64 a.sens]) h2 (j := 0) rfl
    have el : l = [] := List.eq_nil_iff_forall_not_mem.2 fun x hx => h3 x ((Hl'.out x).2 hx)
    clear h2
    go_wp2_with fail
    obtain ⟨lo, elo, hlo, hzl⟩ := Hlo.out
    rw [← elo]
    have Hlo : Hid (lo.data.toList = CL.lvT a.sens (CL.toksOf l)) := by
      show _ = _
      rw [hlo, el]; simp [CL.lvT, CL.toksOf]
    clear c0 hlo el h1 h3 elo hr1 hz1
    refine (lv_equal lb hb a c _ (LvAt.below Ha.out Hb1.out) (LvAt.below Hc.out Hb1.out)).mono ?_
    rintro e we ⟨q, rfl, hq, hb2⟩
    have Hq : Hid (EqIs q a c) := hq
    have Hb2 : Hid (Below w.heap.size w we) := Hb1.out.trans (hb2.mono Hb1.out.size)
    have hbx : we.heap[w.heap.size]? = some (.cells #[.pointer (some ⟨lb, 0, none⟩), .pointer (some ⟨hb, 0, none⟩)] 140 (0, 0)) := by
      rw [hb2.block w.heap.size (Array.getElem?_eq_some_iff.1 Hbx.out).1]; exact Hbx.out
    have e1 := row_cell (l := [.pointer (some ⟨lb, 0, none⟩), .pointer (some ⟨hb, 0, none⟩)]) hbx (j := 1) rfl
    have Hbx := Lib.hid hbx
    obtain ⟨p, hp⟩ := lv_row (LvAt.below Hc.out Hb2.out)
    have c1 := row_cell (l := [p, .int .i64 c.sens]) hp (j := 1) rfl
    clear hp hbx hb2 hq
    cases q
    · go_wp2_with fail
      refine (itoa_nat c.sens _ rfl (by omega) _ (Ht.out.below Hb2.out)).mono ?_
      rintro e wf ⟨r3, rfl, hr3, hz3, hb3⟩
      have Hb3 : Hid (Below w.heap.size w wf) := Hb2.out.trans (hb3.mono Hb2.out.size)
      have hbx : wf.heap[w.heap.size]? = some (.cells #[.pointer (some ⟨lb, 0, none⟩), .pointer (some ⟨hb, 0, none⟩)] 140 (0, 0)) := by
        rw [hb3.block w.heap.size (Array.getElem?_eq_some_iff.1 Hbx.out).1]; exact Hbx.out
      have f1 := row_cell (l := [.pointer (some ⟨lb, 0, none⟩), .pointer (some ⟨hb, 0, none⟩)]) hbx (j := 1) rfl
      clear c1 hbx hb3 e1
      rcases LvAt.below Hc.out Hb3.out with ⟨h1, h2, h3⟩ | ⟨h1, b', B', ws', h2, h3, h4⟩
      · have c0 := row_cell (l := [.pointer none, .int .i64 c.sens]) h2 (j := 0) rfl
        have el : k = [] := List.eq_nil_iff_forall_not_mem.2 fun x hx => h3 x ((Hk'.out x).2 hx)
        clear h2
        go_wp2_with fail
        go_ret
        exact ⟨_, _, rfl, Hq.out, by rw [app_bytes, app_bytes, app_bytes, Hlo.out, hr3.out, el]; simp [rgT, CL.lvT, CL.toksOf], Hb3.out⟩
      · have c0 := row_cell (l := [.pointer (some ⟨b', 0, none⟩), .int .i64 c.sens]) h2 (j := 0) rfl
        have H3 := Lib.hid h3
        clear h2 h3
        go_wp2_with fail
        refine (big_bitLen _ b' B' ws' H3.out).mono ?_
        rintro e wf ⟨m', rfl, hm, rfl⟩
        by_cases hm0 : m' = 0
        · have el : k = [] := List.eq_nil_iff_forall_not_mem.2 fun x hx => by
            have e1 := hm.1 x (by omega)
            have e2 := (h4 x).2 ((Hk'.out x).2 hx)
            rw [e1] at e2; cases e2
          subst hm0
          clear hm h4
          go_wp2_with fail
          go_ret
          exact ⟨_, _, rfl, Hq.out, by rw [app_bytes, app_bytes, app_bytes, Hlo.out, hr3.out, el]; simp [rgT, CL.lvT, CL.toksOf], Hb3.out⟩
        · have el : k ≠ [] := fun el => by
            rcases hm.2.1 with e | e
            · exact hm0 e
            · have := (Hk'.out _).1 ((h4 _).1 e)
              rw [el] at this; cases this
          have hg1 : decide ((m' : Int) > 0) = true := by simp; omega
          have hg2 : (0 < (m' : Int)) = True := by simp; omega
          have H4 : Hid (∀ x, CL.tb ws' x = true ↔ x ∈ k) := fun x => (h4 x).trans (Hk'.out x)
          clear hm h4
          go_wp2_with fail
          refine (toStr_any b' B' ws' k Hk.out H4.out _ H3.out (Ht.out.below Hb3.out)).mono ?_
          rintro e wg ⟨r4, rfl, hr4, hz4, hb4⟩
          go_wp2_with fail
          go_ret
          exact ⟨_, _, rfl, Hq.out, by rw [app_bytes, app_bytes, app_bytes, app_bytes, app_bytes, Hlo.out, hr3.out, hr4.out]; simp [rgT, CL.lvT, CL.catsT, CL.toksOf_ne k el], Hb3.out.trans (hb4.mono Hb3.out.size)⟩
    · go_wp2_with fail
      go_ret
      exact ⟨_, _, rfl, Hq.out, by rw [Hlo.out]; simp [rgT], Hb2.out⟩
  · have c0 := row_cell (l := [.pointer (some ⟨b, 0, none⟩), .int .i64 a.sens]) h2 (j := 0) rfl
    have H3 := Lib.hid h3
    have H2 := Lib.hid h2
    clear h2 h3
    go_wp2_with fail
    refine (big_bitLen _ b B ws H3.out).mono ?_
    rintro e wc ⟨m, rfl, hm, rfl⟩
    by_cases hm0 : m = 0
    · have el : l = [] := List.eq_nil_iff_forall_not_mem.2 fun x hx => by
        have e1 := hm.1 x (by omega)
        have e2 := (h4 x).2 ((Hl'.out x).2 hx)
        rw [e1] at e2; cases e2
      subst hm0
      clear hm h4
      go_wp2_with fail
      obtain ⟨lo, elo, hlo, hzl⟩ := Hlo.out
      rw [← elo]
      have Hlo : Hid (lo.data.toList = CL.lvT a.sens (CL.toksOf l)) := by
        show _ = _
        rw [hlo, el]; simp [CL.lvT, CL.toksOf]
      clear c0 hlo el h1 H3 H2 elo hr1 hz1
      refine (lv_equal lb hb a c _ (LvAt.below Ha.out Hb1.out) (LvAt.below Hc.out Hb1.out)).mono ?_
      rintro e we ⟨q, rfl, hq, hb2⟩
      have Hq : Hid (EqIs q a c) := hq
      have Hb2 : Hid (Below w.heap.size w we) := Hb1.out.trans (hb2.mono Hb1.out.size)
      have hbx : we.heap[w.heap.size]? = some (.cells #[.pointer (some ⟨lb, 0, none⟩), .pointer (some ⟨hb, 0, none⟩)] 140 (0, 0)) := by
        rw [hb2.block w.heap.size (Array.getElem?_eq_some_iff.1 Hbx.out).1]; exact Hbx.out
      have e1 := row_cell (l := [.pointer (some ⟨lb, 0, none⟩), .pointer (some ⟨hb, 0, none⟩)]) hbx (j := 1) rfl
      have Hbx := Lib.hid hbx
      obtain ⟨p, hp⟩ := lv_row (LvAt.below Hc.out Hb2.out)
      have c1 := row_cell (l := [p, .int .i64 c.sens]) hp (j := 1) rfl
      clear hp hbx hb2 hq
      cases q
      · go_wp2_with fail
        refine (itoa_nat c.sens _ rfl (by omega) _ (Ht.out.below Hb2.out)).mono ?_
        rintro e wf ⟨r3, rfl, hr3, hz3, hb3⟩
        have Hb3 : Hid (Below w.heap.size w wf) := Hb2.out.trans (hb3.mono Hb2.out.size)
        have hbx : wf.heap[w.heap.size]? = some (.cells #[.pointer (some ⟨lb, 0, none⟩), .pointer (some ⟨hb, 0, none⟩)] 140 (0, 0)) := by
          rw [hb3.block w.heap.size (Array.getElem?_eq_some_iff.1 Hbx.out).1]; exact Hbx.out
        have f1 := row_cell (l := [.pointer (some ⟨lb, 0, none⟩), .pointer (some ⟨hb, 0, none⟩)]) hbx (j := 1) rfl
        clear c1 hbx hb3 e1
        rcases LvAt.below Hc.out Hb3.out with ⟨h1, h2, h3⟩ | ⟨h1, b', B', ws', h2, h3, h4⟩
        · have c0 := row_cell (l := [.pointer none, .int .i64 c.sens]) h2 (j := 0) rfl
          have el : k = [] := List.eq_nil_iff_forall_not_mem.2 fun x hx => h3 x ((Hk'.out x).2 hx)
          clear h2
          go_wp2_with fail
          go_ret
          exact ⟨_, _, rfl, Hq.out, by rw [app_bytes, app_bytes, app_bytes, Hlo.out, hr3.out, el]; simp [rgT, CL.lvT, CL.toksOf], Hb3.out⟩
        · have c0 := row_cell (l := [.pointer (some ⟨b', 0, none⟩), .int .i64 c.sens]) h2 (j := 0) rfl
          have H3 := Lib.hid h3
          clear h2 h3
          go_wp2_with fail
          refine (big_bitLen _ b' B' ws' H3.out).mono ?_
          rintro e wf ⟨m', rfl, hm, rfl⟩
          by_cases hm0 : m' = 0
          · have el : k = [] := List.eq_nil_iff_forall_not_mem.2 fun x hx => by
              have e1 := hm.1 x (by omega)
              have e2 := (h4 x).2 ((Hk'.out x).2 hx)
              rw [e1] at e2; cases e2
            subst hm0
            clear hm h4
            go_wp2_with fail
            go_ret
            exact ⟨_, _, rfl, Hq.out, by rw [app_bytes, app_bytes, app_bytes, Hlo.out, hr3.out, el]; simp [rgT, CL.lvT, CL.toksOf], Hb3.out⟩
          · have el : k ≠ [] := fun el => by
              rcases hm.2.1 with e | e
              · exact hm0 e
              · have := (Hk'.out _).1 ((h4 _).1 e)
                rw [el] at this; cases this
            have hg1 : decide ((m' : Int) > 0) = true := by simp; omega
            have hg2 : (0 < (m' : Int)) = True := by simp; omega
            have H4 : Hid (∀ x, CL.tb ws' x = true ↔ x ∈ k) := fun x => (h4 x).trans (Hk'.out x)
            clear hm h4
            go_wp2_with fail
            refine (toStr_any b' B' ws' k Hk.out H4.out _ H3.out (Ht.out.below Hb3.out)).mono ?_
            rintro e wg ⟨r4, rfl, hr4, hz4, hb4⟩
            go_wp2_with fail
            go_ret
            exact ⟨_, _, rfl, Hq.out, by rw [app_bytes, app_bytes, app_bytes, app_bytes, app_bytes, Hlo.out, hr3.out, hr4.out]; simp [rgT, CL.lvT, CL.catsT, CL.toksOf_ne k el], Hb3.out.trans (hb4.mono Hb3.out.size)⟩
      · go_wp2_with fail
        go_ret
        exact ⟨_, _, rfl, Hq.out, by rw [Hlo.out]; simp [rgT], Hb2.out⟩
    · have el : l ≠ [] := fun el => by
        rcases hm.2.1 with e | e
        · exact hm0 e
        · have := (Hl'.out _).1 ((h4 _).1 e)
          rw [el] at this; cases this
      have hg1 : decide ((m : Int) > 0) = true := by simp; omega
      have hg2 : (0 < (m : Int)) = True := by simp; omega
      have H4 : Hid (∀ x, CL.tb ws x = true ↔ x ∈ l) := fun x => (h4 x).trans (Hl'.out x)
      clear hm h4
      go_wp2_with fail
      refine (toStr_any b B ws l Hl.out H4.out _ H3.out (Ht.out.below Hb1.out)).mono ?_
      rintro e wd ⟨r2, rfl, hr2, hz2, hb2⟩
      have hbx : wd.heap[w.heap.size]? = some (.cells #[.pointer (some ⟨lb, 0, none⟩), .pointer (some ⟨hb, 0, none⟩)] 140 (0, 0)) := by
        rw [hb2.block w.heap.size (Array.getElem?_eq_some_iff.1 Hbx.out).1]; exact Hbx.out
      have d0 := row_cell (l := [.pointer (some ⟨lb, 0, none⟩), .pointer (some ⟨hb, 0, none⟩)]) hbx (j := 0) rfl
      have d1 := row_cell (l := [.pointer (some ⟨lb, 0, none⟩), .pointer (some ⟨hb, 0, none⟩)]) hbx (j := 1) rfl
      have HB := Hb1.out.trans (hb2.mono Hb1.out.size)
      have hlo : (⟨#[115]⟩ ++ r1 ++ (⟨#[58]⟩ ++ r2) : ByteArray).data.toList = CL.lvT a.sens (CL.toksOf l) := by
        rw [app_bytes, app_bytes, app_bytes, hr1.out, hr2.out]
        simp [CL.lvT, CL.catsT, CL.toksOf_ne l el]
      have Hlo := Lib.hid hlo
      have Hbx := Lib.hid hbx
      have Hb1 : Hid (Below w.heap.size w wd) := HB
      clear c0 hlo el h1 H3 H2 H4 hr1 hr2 hb2 b0 b1 hbx HB hg1 hg2
      go_wp2_with fail
      have hzl : (⟨#[115]⟩ ++ r1 ++ (⟨#[58]⟩ ++ r2) : ByteArray).size ≤ 300000 * 128000 + 20004 := by
        rw [ByteArray.size_append, ByteArray.size_append, ByteArray.size_append]; show 1 + _ + (1 + _) ≤ _; omega
      generalize (⟨#[115]⟩ ++ r1 ++ (⟨#[58]⟩ ++ r2) : ByteArray) = lo at *
      refine (lv_equal lb hb a c _ (LvAt.below Ha.out Hb1.out) (LvAt.below Hc.out Hb1.out)).mono ?_
      rintro e we ⟨q, rfl, hq, hb2⟩
      have Hq : Hid (EqIs q a c) := hq
      have Hb2 : Hid (Below w.heap.size w we) := Hb1.out.trans (hb2.mono Hb1.out.size)
      have hbx : we.heap[w.heap.size]? = some (.cells #[.pointer (some ⟨lb, 0, none⟩), .pointer (some ⟨hb, 0, none⟩)] 140 (0, 0)) := by
        rw [hb2.block w.heap.size (Array.getElem?_eq_some_iff.1 Hbx.out).1]; exact Hbx.out
      have e1 := row_cell (l := [.pointer (some ⟨lb, 0, none⟩), .pointer (some ⟨hb, 0, none⟩)]) hbx (j := 1) rfl
      have Hbx := Lib.hid hbx
      obtain ⟨p, hp⟩ := lv_row (LvAt.below Hc.out Hb2.out)
      have c1 := row_cell (l := [p, .int .i64 c.sens]) hp (j := 1) rfl
      clear hp hbx hb2 hq
      cases q
      · go_wp2_with fail
        refine (itoa_nat c.sens _ rfl (by omega) _ (Ht.out.below Hb2.out)).mono ?_
        rintro e wf ⟨r3, rfl, hr3, hz3, hb3⟩
        have Hb3 : Hid (Below w.heap.size w wf) := Hb2.out.trans (hb3.mono Hb2.out.size)
        have hbx : wf.heap[w.heap.size]? = some (.cells #[.pointer (some ⟨lb, 0, none⟩), .pointer (some ⟨hb, 0, none⟩)] 140 (0, 0)) := by
          rw [hb3.block w.heap.size (Array.getElem?_eq_some_iff.1 Hbx.out).1]; exact Hbx.out
        have f1 := row_cell (l := [.pointer (some ⟨lb, 0, none⟩), .pointer (some ⟨hb, 0, none⟩)]) hbx (j := 1) rfl
        clear c1 hbx hb3 e1
        rcases LvAt.below Hc.out Hb3.out with ⟨h1, h2, h3⟩ | ⟨h1, b', B', ws', h2, h3, h4⟩
        · have c0 := row_cell (l := [.pointer none, .int .i64 c.sens]) h2 (j := 0) rfl
          have el : k = [] := List.eq_nil_iff_forall_not_mem.2 fun x hx => h3 x ((Hk'.out x).2 hx)
          clear h2
          go_wp2_with fail
          go_ret
          exact ⟨_, _, rfl, Hq.out, by rw [app_bytes, app_bytes, app_bytes, Hlo.out, hr3.out, el]; simp [rgT, CL.lvT, CL.toksOf], Hb3.out⟩
        · have c0 := row_cell (l := [.pointer (some ⟨b', 0, none⟩), .int .i64 c.sens]) h2 (j := 0) rfl
          have H3 := Lib.hid h3
          clear h2 h3
          go_wp2_with fail
          refine (big_bitLen _ b' B' ws' H3.out).mono ?_
          rintro e wf ⟨m', rfl, hm, rfl⟩
          by_cases hm0 : m' = 0
          · have el : k = [] := List.eq_nil_iff_forall_not_mem.2 fun x hx => by
              have e1 := hm.1 x (by omega)
              have e2 := (h4 x).2 ((Hk'.out x).2 hx)
              rw [e1] at e2; cases e2
            subst hm0
            clear hm h4
            go_wp2_with fail
            go_ret
            exact ⟨_, _, rfl, Hq.out, by rw [app_bytes, app_bytes, app_bytes, Hlo.out, hr3.out, el]; simp [rgT, CL.lvT, CL.toksOf], Hb3.out⟩
          · have el : k ≠ [] := fun el => by
              rcases hm.2.1 with e | e
              · exact hm0 e
              · have := (Hk'.out _).1 ((h4 _).1 e)
                rw [el] at this; cases this
            have hg1 : decide ((m' : Int) > 0) = true := by simp; omega
            have hg2 : (0 < (m' : Int)) = True := by simp; omega
            have H4 : Hid (∀ x, CL.tb ws' x = true ↔ x ∈ k) := fun x => (h4 x).trans (Hk'.out x)
            clear hm h4
            go_wp2_with fail
            refine (toStr_any b' B' ws' k Hk.out H4.out _ H3.out (Ht.out.below Hb3.out)).mono ?_
            rintro e wg ⟨r4, rfl, hr4, hz4, hb4⟩
            go_wp2_with fail
            go_ret
            exact ⟨_, _, rfl, Hq.out, by rw [app_bytes, app_bytes, app_bytes, app_bytes, app_bytes, Hlo.out, hr3.out, hr4.out]; simp [rgT, CL.lvT, CL.catsT, CL.toksOf_ne k el], Hb3.out.trans (hb4.mono Hb3.out.size)⟩
      · go_wp2_with fail
        go_ret
        exact ⟨_, _, rfl, Hq.out, by rw [Hlo.out]; simp [rgT], Hb2.out⟩
end Go.Proofs.YtdmggcbbfljciaaGreatDoor
