/- the law FnRange: its walk. -/
import Derived.Test.YtaloidnoeafgiaaDoorRgOut
namespace Go.Proofs.YtaloidnoeafgiaaDoor
open Go.RowKit Go.Lib

theorem loose_reads2 (t : ByteArray) (s s' : Nat) (hs : s ≤ 9999) (hs' : s' ≤ 9999) (ns ns' : List Nat) (h9 : ∀ x ∈ ns, x ≤ 9999) (h9' : ∀ x ∈ ns', x ≤ 9999) (hl : ns.length ≤ 500) (hl' : ns'.length ≤ 500) (ht : t.data.toList = CL.lvT s (CL.looseP ns) ++ 45 :: CL.lvT s' (CL.looseP ns')) :
    ReadsAs t (lvd s (CL.looseP ns)) (lvd s' (CL.looseP ns')) := by
  have hok := CL.looseP_ok ns h9
  have hok' := CL.looseP_ok ns' h9'
  have n1 := CL.lvT_len s hs _ hok
  have n2 := CL.lvT_len s' hs' _ hok'
  have m1 : (CL.looseP ns).length = ns.length := by simp [CL.looseP]
  have m2 : (CL.looseP ns').length = ns'.length := by simp [CL.looseP]
  exact fun w => range_two t s _ s' _ hok hok' ht hs hs' (by rw [Lib.size_eq, ht]; simp; omega) w

set_option maxRecDepth 100000 in
set_option maxHeartbeats 4000000 in
theorem fnRange_in (s s' : Nat) (hs : s ≤ 9999) (hs' : s' ≤ 9999) (ao : Option Addr) (ns : List Nat) (c : Nat) (ao' : Option Addr) (ns' : List Nat) (c' : Nat) (w : World) (h : NatsAt w ao ns) (h' : NatsAt w ao' ns') (hi : IntsAt w ao (ns.map Int.ofNat)) (hi' : IntsAt w ao' (ns'.map Int.ofNat)) (hp : ProperL s (ns.map Int.ofNat) ∧ ProperL s' (ns'.map Int.ofNat)) (hg : CL.Gr ns) (hg' : CL.Gr ns') (h9 : ∀ x ∈ ns, x ≤ 9999) (h9' : ∀ x ∈ ns', x ≤ 9999) (hl : ns.length ≤ 500) (hl' : ns'.length ≤ 500) (hT : Tabs w) :
    Calls Tryd.prog 3 #[.agg #[.int .i64 s, .slice ao ns.length c, .int .i64 s', .slice ao' ns'.length c']] w fun e w' => e = .returned (.bool true) ∧ Below w.heap.size w w' := by
  have H0 : Hid (Below w.heap.size w (w.alloc (.cells #[.int .i64 s, .slice ao ns.length c, .int .i64 s', .slice ao' ns'.length c'] 26))) := (Below.refl _ _).alloc (Nat.le_refl _) _
  have Hn := Lib.hid h
  have Hn' := Lib.hid h'
  have Hi := Lib.hid hi
  have Hi' := Lib.hid hi'
  have Hp := Lib.hid hp
  have Hg := Lib.hid hg
  have Hg' := Lib.hid hg'
  have H9 := Lib.hid h9
  have H9' := Lib.hid h9'
  have Ht := Lib.hid hT
  have Hrd := Lib.hid (fun t ht => span_reads t s s' hs hs' ns ns' hg hg' h9 h9' hl hl' ht)
  have Hrl := Lib.hid (fun t ht => loose_reads2 t s s' hs hs' ns ns' h9 h9' hl hl' ht)
  have HlA := Lib.hid (lv_loose s ns hg)
  have HlB := Lib.hid (lv_loose s' ns' hg')
  have el : (ns.map Int.ofNat).length = ns.length := by simp
  have el' : (ns'.map Int.ofNat).length = ns'.length := by simp
  have Hf := Lib.hid (fits1 s ao ns.length c s' ao' ns'.length c')
  have hfd : decide (ns.length ≤ 2147483647 ∧ ns'.length ≤ 2147483647) = true := by simp; omega
  rw [hfd] at Hf
  have Hsp := Lib.hid (fun W hb => span_any s ao (ns.map Int.ofNat) c s' ao' (ns'.map Int.ofNat) c' W (hi.below hb) (hi'.below hb))
  rw [el, el'] at Hsp
  clear h h' hi hi' hp hg hg' h9 h9' hT el el' hfd
  go_enter Tryd.func3, Tryd.ntmps3
  go_wp2_with fail
  refine (Hf.out _).mono ?_
  rintro e w2 ⟨rfl, hb2⟩
  have hbx : w2.heap[w.heap.size]? = some (.cells #[.int .i64 s, .slice ao ns.length c, .int .i64 s', .slice ao' ns'.length c'] 26 (0, 0)) := by
    rw [hb2.block w.heap.size (by simp)]; exact heap_alloc_new _ _
  have c0 := row_cell (l := [.int .i64 s, .slice ao ns.length c, .int .i64 s', .slice ao' ns'.length c']) hbx (j := 0) rfl
  have c1 := row_cell (l := [.int .i64 s, .slice ao ns.length c, .int .i64 s', .slice ao' ns'.length c']) hbx (j := 1) rfl
  have c2 := row_cell (l := [.int .i64 s, .slice ao ns.length c, .int .i64 s', .slice ao' ns'.length c']) hbx (j := 2) rfl
  have c3 := row_cell (l := [.int .i64 s, .slice ao ns.length c, .int .i64 s', .slice ao' ns'.length c']) hbx (j := 3) rfl
  have hlt : w.heap.size < w2.heap.size := (Array.getElem?_eq_some_iff.1 hbx).1
  have HX : Hid (Below w.heap.size w w2) := H0.out.trans (hb2.mono (by simp))
  clear hb2 hbx H0 Hf
  go_wp2_with fail
  refine (Hsp.out _ HX.out).mono ?_
  rintro e w3 ⟨⟨q, rfl, hq⟩, hb3⟩
  obtain rfl : q = true := hq.2 Hp.out
  have c0 := (hb3.cell (p := ⟨w.heap.size, 0, none⟩) hlt).trans c0
  have c1 := (hb3.cell (p := ⟨w.heap.size, 1, none⟩) hlt).trans c1
  have c2 := (hb3.cell (p := ⟨w.heap.size, 2, none⟩) hlt).trans c2
  have c3 := (hb3.cell (p := ⟨w.heap.size, 3, none⟩) hlt).trans c3
  have hlt := Nat.lt_of_lt_of_le hlt hb3.size
  have HX : Hid (Below w.heap.size w w3) := (by first | exact HX.out.trans (hb3.mono HX.out.size) | exact HX.out.drew.trans (hb3.mono HX.out.size))
  clear hq hb3
  go_wp2_with fail
  refine (span_text s s' hs hs' ao ns c ao' ns' c' _ (Hn.out.below HX.out) (Hn'.out.below HX.out) H9.out H9'.out hl hl').mono ?_
  rintro e w3 ⟨t, rfl, htx, htz, hb3⟩
  have c0 := (hb3.cell (p := ⟨w.heap.size, 0, none⟩) hlt).trans c0
  have c1 := (hb3.cell (p := ⟨w.heap.size, 1, none⟩) hlt).trans c1
  have c2 := (hb3.cell (p := ⟨w.heap.size, 2, none⟩) hlt).trans c2
  have c3 := (hb3.cell (p := ⟨w.heap.size, 3, none⟩) hlt).trans c3
  have hlt := Nat.lt_of_lt_of_le hlt hb3.size
  have HX : Hid (Below w.heap.size w w3) := (by first | exact HX.out.trans (hb3.mono HX.out.size) | exact HX.out.drew.trans (hb3.mono HX.out.size))
  clear hb3
  obtain ⟨a, b, hra, hla, hlb⟩ := Hrd.out t htx.out
  have Hra := Lib.hid hra
  have Hla := Lib.hid hla
  have Hlb := Lib.hid hlb
  clear hra hla hlb
  go_wp2_with fail
  refine (implRange t a b ns ns' Hra.out Hla.out.mem Hlb.out.mem (by rw [Hla.out.sens]; exact hs) (by rw [Hlb.out.sens]; exact hs') _ (Ht.out.below HX.out)).mono ?_
  rintro e w3 ⟨got, rfl, hr, hb3⟩
  have Hr : Hid (got.data.toList = spanT s ns s' ns') := range_out Hla.out Hlb.out hr
  have c0 := (hb3.cell (p := ⟨w.heap.size, 0, none⟩) hlt).trans c0
  have c1 := (hb3.cell (p := ⟨w.heap.size, 1, none⟩) hlt).trans c1
  have c2 := (hb3.cell (p := ⟨w.heap.size, 2, none⟩) hlt).trans c2
  have c3 := (hb3.cell (p := ⟨w.heap.size, 3, none⟩) hlt).trans c3
  have hlt := Nat.lt_of_lt_of_le hlt hb3.size
  have HX : Hid (Below w.heap.size w w3) := (by first | exact HX.out.trans (hb3.mono HX.out.size) | exact HX.out.drew.trans (hb3.mono HX.out.size))
  clear hb3 hr Hla Hlb Hra
  go_wp2
  go_region_with (first | (go_at_call 15; refine (level_loose _ (by with_reducible assumption) _ _ _ _ (by first | (with_reducible exact Hn.out.below HX.out) | (with_reducible exact Hn'.out.below HX.out) | (with_reducible exact Hn.out.below HX.out.drew) | (with_reducible exact Hn'.out.below HX.out.drew)) (by first | (with_reducible exact H9.out) | (with_reducible exact H9'.out)) (by with_reducible assumption)).mono ?_; rintro e w3 ⟨r, rfl, hr, hz, hb3⟩; (first | have hrA : Hid (r.data.toList = CL.lvT s (CL.looseP ns)) := (by with_reducible exact hr) | have hrB : Hid (r.data.toList = CL.lvT s' (CL.looseP ns')) := (by with_reducible exact hr)); have c0 := (hb3.cell (p := ⟨w.heap.size, 0, none⟩) hlt).trans c0; have c1 := (hb3.cell (p := ⟨w.heap.size, 1, none⟩) hlt).trans c1; have c2 := (hb3.cell (p := ⟨w.heap.size, 2, none⟩) hlt).trans c2; have c3 := (hb3.cell (p := ⟨w.heap.size, 3, none⟩) hlt).trans c3; have hlt := Nat.lt_of_lt_of_le hlt hb3.size; have HX : Hid (Below w.heap.size w w3) := (by first | exact HX.out.trans (hb3.mono HX.out.size) | exact HX.out.drew.trans (hb3.mono HX.out.size))) | (go_at_call 13; refine (implRange _ (lvd s (CL.looseP ns)) (lvd s' (CL.looseP ns')) ns ns' (Hrl.out _ (by rw [app_bytes, app_bytes, hrA.out, hrB.out]; simp)) HlA.out.mem HlB.out.mem hs hs' _ (Ht.out.below (by first | (with_reducible exact HX.out) | (with_reducible exact HX.out.drew)))).mono ?_; rintro e w3 ⟨oth, rfl, hr, hb3⟩; have HrO : Hid (oth.data.toList = spanT s ns s' ns') := range_out HlA.out HlB.out hr; have c0 := (hb3.cell (p := ⟨w.heap.size, 0, none⟩) hlt).trans c0; have c1 := (hb3.cell (p := ⟨w.heap.size, 1, none⟩) hlt).trans c1; have c2 := (hb3.cell (p := ⟨w.heap.size, 2, none⟩) hlt).trans c2; have c3 := (hb3.cell (p := ⟨w.heap.size, 3, none⟩) hlt).trans c3; have hlt := Nat.lt_of_lt_of_le hlt hb3.size; have HX : Hid (Below w.heap.size w w3) := (by first | exact HX.out.trans (hb3.mono HX.out.size) | exact HX.out.drew.trans (hb3.mono HX.out.size))))
  all_goals go_wp2_with fail
  all_goals
    refine (span_text s s' hs hs' ao ns c ao' ns' c' _ (Hn.out.below HX.out) (Hn'.out.below HX.out) H9.out H9'.out hl hl').mono ?_
    rintro e w3 ⟨t, rfl, htx, htz, hb3⟩
    obtain rfl : t = got := bytes_ext (htx.out.trans Hr.out.symm)
    have c0 := (hb3.cell (p := ⟨w.heap.size, 0, none⟩) hlt).trans c0
    have c1 := (hb3.cell (p := ⟨w.heap.size, 1, none⟩) hlt).trans c1
    have c2 := (hb3.cell (p := ⟨w.heap.size, 2, none⟩) hlt).trans c2
    have c3 := (hb3.cell (p := ⟨w.heap.size, 3, none⟩) hlt).trans c3
    have hlt := Nat.lt_of_lt_of_le hlt hb3.size
    have HX : Hid (Below w.heap.size w w3) := (by first | exact HX.out.trans (hb3.mono HX.out.size) | exact HX.out.drew.trans (hb3.mono HX.out.size))
    clear hb3 htx
  all_goals go_wp2_with fail
  all_goals
    refine (span_text s s' hs hs' ao ns c ao' ns' c' _ (Hn.out.below HX.out) (Hn'.out.below HX.out) H9.out H9'.out hl hl').mono ?_
    rintro e w3 ⟨t, rfl, htx, htz, hb3⟩
    obtain rfl : t = oth := bytes_ext (htx.out.trans HrO.out.symm)
    have c0 := (hb3.cell (p := ⟨w.heap.size, 0, none⟩) hlt).trans c0
    have c1 := (hb3.cell (p := ⟨w.heap.size, 1, none⟩) hlt).trans c1
    have c2 := (hb3.cell (p := ⟨w.heap.size, 2, none⟩) hlt).trans c2
    have c3 := (hb3.cell (p := ⟨w.heap.size, 3, none⟩) hlt).trans c3
    have hlt := Nat.lt_of_lt_of_le hlt hb3.size
    have HX : Hid (Below w.heap.size w w3) := (by first | exact HX.out.trans (hb3.mono HX.out.size) | exact HX.out.drew.trans (hb3.mono HX.out.size))
    clear hb3 htx
  all_goals go_wp2_with fail
  all_goals
    refine (works_ok _ (Ht.out.below HX.out)).mono ?_
    rintro e w3 ⟨rfl, hb3⟩
    have HX : Hid (Below w.heap.size w w3) := (by first | exact HX.out.trans (hb3.mono HX.out.size) | exact HX.out.drew.trans (hb3.mono HX.out.size))
    clear hb3
  all_goals go_wp2
  all_goals go_ret
  all_goals exact ⟨rfl, HX.out⟩
end Go.Proofs.YtaloidnoeafgiaaDoor
