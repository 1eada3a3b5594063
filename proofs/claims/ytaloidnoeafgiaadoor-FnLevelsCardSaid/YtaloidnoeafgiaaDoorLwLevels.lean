/- the law FnLevels: its walk. -/
import Derived.Test.YtaloidnoeafgiaaDoorLwRange
import Derived.Test.YtaloidnoeafgiaaDoorLvTwo
import Derived.Test.YtaloidnoeafgiaaDoorS4
import Derived.Deep.RegionHeld3
import Derived.Deep.Cut
namespace Go.Proofs.YtaloidnoeafgiaaDoor
open Go.RowKit Go.Lib

set_option maxRecDepth 100000 in
set_option maxHeartbeats 40000000 in
theorem fnLevels_in (s s' : Nat) (hs : s ≤ 9999) (hs' : s' ≤ 9999) (ao : Option Addr) (ns : List Nat) (c : Nat) (ao' : Option Addr) (ns' : List Nat) (c' : Nat) (w : World) (h : NatsAt w ao ns) (h' : NatsAt w ao' ns') (hi : IntsAt w ao (ns.map Int.ofNat)) (hi' : IntsAt w ao' (ns'.map Int.ofNat)) (hp : ProperL s (ns.map Int.ofNat) ∧ ProperL s' (ns'.map Int.ofNat)) (hg : CL.Gr ns) (hg' : CL.Gr ns') (h9 : ∀ x ∈ ns, x ≤ 9999) (h9' : ∀ x ∈ ns', x ≤ 9999) (hl : ns.length ≤ 500) (hl' : ns'.length ≤ 500) (hT : Tabs w) :
    Calls Tryd.prog 6 #[.agg #[.int .i64 s, .slice ao ns.length c, .int .i64 s', .slice ao' ns'.length c']] w fun e w' => e = .returned (.bool true) ∧ Below w.heap.size w w' := by
  have H0 : Hid (Below w.heap.size w (w.alloc (.cells #[.int .i64 s, .slice ao ns.length c, .int .i64 s', .slice ao' ns'.length c'] 26))) := (Below.refl _ _).alloc (Nat.le_refl _) _
  have Hn := Lib.hid h
  have Hn' := Lib.hid h'
  have Hi := Lib.hid hi
  have Hi' := Lib.hid hi'
  have Hp := Lib.hid hp
  have Hg := Lib.hid hg
  have Hg' := Lib.hid hg'
  have H9 := Lib.hid h9
  have H9' := Lib.hid h9'
  have Ht := Lib.hid hT
  have Hrd := Lib.hid (fun t ht => span_reads t s s' hs hs' ns ns' hg hg' h9 h9' hl hl' ht)
  have Hrl := Lib.hid (fun t ht => loose_reads2 t s s' hs hs' ns ns' h9 h9' hl hl' ht)
  have HlA := Lib.hid (lv_loose s ns hg)
  have HlB := Lib.hid (lv_loose s' ns' hg')
  have el : (ns.map Int.ofNat).length = ns.length := by simp
  have el' : (ns'.map Int.ofNat).length = ns'.length := by simp
  have Hf := Lib.hid (fits1 s ao ns.length c s' ao' ns'.length c')
  have hfd : decide (ns.length ≤ 2147483647 ∧ ns'.length ≤ 2147483647) = true := by simp; omega
  rw [hfd] at Hf
  have Hsp := Lib.hid (fun W hb => span_any s ao (ns.map Int.ofNat) c s' ao' (ns'.map Int.ofNat) c' W (hi.below hb) (hi'.below hb))
  rw [el, el'] at Hsp
  clear h h' hi hi' hp hg hg' h9 h9' hT el el' hfd
  go_enter Tryd.func6, Tryd.ntmps6
  go_wp2_with fail
  refine (Hf.out _).mono ?_
  rintro e w2 ⟨rfl, hb2⟩
  have hbx : w2.heap[w.heap.size]? = some (.cells #[.int .i64 s, .slice ao ns.length c, .int .i64 s', .slice ao' ns'.length c'] 26 (0, 0)) := by
    rw [hb2.block w.heap.size (by simp)]; exact heap_alloc_new _ _
  have c0 := row_cell (l := [.int .i64 s, .slice ao ns.length c, .int .i64 s', .slice ao' ns'.length c']) hbx (j := 0) rfl
  have c1 := row_cell (l := [.int .i64 s, .slice ao ns.length c, .int .i64 s', .slice ao' ns'.length c']) hbx (j := 1) rfl
  have c2 := row_cell (l := [.int .i64 s, .slice ao ns.length c, .int .i64 s', .slice ao' ns'.length c']) hbx (j := 2) rfl
  have c3 := row_cell (l := [.int .i64 s, .slice ao ns.length c, .int .i64 s', .slice ao' ns'.length c']) hbx (j := 3) rfl
  have hlt : w.heap.size < w2.heap.size := (Array.getElem?_eq_some_iff.1 hbx).1
  have HX : Hid (Below w.heap.size w w2) := H0.out.trans (hb2.mono (by simp))
  clear hb2 hbx H0 Hf
  go_wp2_with fail
  refine (Hsp.out _ HX.out).mono ?_
  rintro e w3 ⟨⟨q, rfl, hq⟩, hb3⟩
  obtain rfl : q = true := hq.2 Hp.out
  have c0 := (hb3.cell (p := ⟨w.heap.size, 0, none⟩) hlt).trans c0
  have c1 := (hb3.cell (p := ⟨w.heap.size, 1, none⟩) hlt).trans c1
  have c2 := (hb3.cell (p := ⟨w.heap.size, 2, none⟩) hlt).trans c2
  have c3 := (hb3.cell (p := ⟨w.heap.size, 3, none⟩) hlt).trans c3
  have hlt := Nat.lt_of_lt_of_le hlt hb3.size
  have HX : Hid (Below w.heap.size w w3) := (by first | exact HX.out.trans (hb3.mono HX.out.size) | exact HX.out.drew.trans (hb3.mono HX.out.size))
  clear hq hb3
  go_upto_region 5 with fail
  go_cut [3, 4, 5] from 9 (fun s3 s4 s5 wc => ∃ (g3 g4 : Nat) (av au : Option Addr) (cv cu : Nat), s3 = .pointer (some ⟨g3, 0, none⟩) ∧ s4 = .pointer (some ⟨g4, 0, none⟩) ∧ s5 = .bool true ∧ Two w3 wc s s' ns ns' g3 g4 av au cv cu)
  case first =>
    go_wp2_with fail
    refine (span_text s s' hs hs' ao ns c ao' ns' c' _ (Hn.out.below HX.out) (Hn'.out.below HX.out) H9.out H9'.out hl hl').mono ?_
    rintro e w4 ⟨t, rfl, htx, htz, hb4⟩
    obtain ⟨a, b, hra, hla, hlb⟩ := Hrd.out t htx.out
    have Hra := Lib.hid hra
    have Hla := Lib.hid hla
    have Hlb := Lib.hid hlb
    clear hra hla hlb
    go_wp2_with fail
    refine (implLevels t a b ns ns' Hra.out Hla.out.mem Hlb.out.mem hl hl' _).mono ?_
    rintro e w5 ⟨v, u, rfl, ⟨hv, hu, hav, hau⟩, hb5⟩
    rw [Hla.out.sens, Hlb.out.sens]
    obtain ⟨av, cv, rfl, hv1, hv2⟩ := hv
    obtain ⟨au, cu, rfl, hu1, hu2⟩ := hu
    have HB5 : Hid (Below w3.heap.size w3 w5) := hb4.trans (hb5.mono hb4.size)
    have Hv := Lib.hid hv1
    have Hu := Lib.hid hu1
    clear hv1 hv2 hu1 hu2 hav hau hb4 hb5
    go_wp2_with fail
    go_meet
    case rel =>
      refine ⟨_, _, av, au, cv, cu, rfl, rfl, rfl, ?_⟩
      exact Two.new HB5.out Hv.out Hu.out
  case rest =>
    obtain ⟨g3, g4, av, au, cv, cu, rfl, rfl, rfl, h34⟩ := hcut
    have H34 := Lib.hid h34
    have c0 := (h34.below.cell (p := ⟨w.heap.size, 0, none⟩) hlt).trans c0
    have c1 := (h34.below.cell (p := ⟨w.heap.size, 1, none⟩) hlt).trans c1
    have c2 := (h34.below.cell (p := ⟨w.heap.size, 2, none⟩) hlt).trans c2
    have c3 := (h34.below.cell (p := ⟨w.heap.size, 3, none⟩) hlt).trans c3
    have hlt0 := Nat.lt_of_lt_of_le hlt h34.below.size
    have HX : Hid (Below w.heap.size w wc) := HX.out.trans (h34.below.mono HX.out.size)
    have o0 := c0
    have o1 := c1
    have o2 := c2
    have o3 := c3
    have HNn : Hid (∀ W, Below wc.heap.size wc W → NatsAt W ao ns ∧ NatsAt W ao' ns') := fun W hb => ⟨(Hn.out.below HX.out).below hb, (Hn'.out.below HX.out).below hb⟩
    obtain ⟨tA, htA⟩ : ∃ t : ByteArray, t.data.toList = CL.lvT s (CL.looseP ns) := ⟨⟨(CL.lvT s (CL.looseP ns)).toArray⟩, rfl⟩
    obtain ⟨tB, htB⟩ : ∃ t : ByteArray, t.data.toList = CL.lvT s' (CL.looseP ns') := ⟨⟨(CL.lvT s' (CL.looseP ns')).toArray⟩, rfl⟩
    have zA : tA.size ≤ 20000 := by have n1 := CL.lvT_len s hs _ (CL.looseP_ok ns H9.out); have m1 : (CL.looseP ns).length = ns.length := by simp [CL.looseP]
                                    rw [Lib.size_eq, htA]; omega
    have zB : tB.size ≤ 20000 := by have n1 := CL.lvT_len s' hs' _ (CL.looseP_ok ns' H9'.out); have m1 : (CL.looseP ns').length = ns'.length := by simp [CL.looseP]
                                    rw [Lib.size_eq, htB]; omega
    have ha1 : ∀ w, (Op.stringOp .add tA (⟨#[45]⟩ : ByteArray)).run Tryd.prog w = .ok (.string (tA ++ (⟨#[45]⟩ : ByteArray))) w := fun w => run_string_add_sum w _ _ (by show tA.size + 1 ≤ _; omega)
    have ha2 : ∀ w, (Op.stringOp .add (tA ++ (⟨#[45]⟩ : ByteArray)) tB).run Tryd.prog w = .ok (.string (tA ++ (⟨#[45]⟩ : ByteArray) ++ tB)) w := fun w => run_string_add_sum w _ _ (by rw [ByteArray.size_append]; show tA.size + 1 + tB.size ≤ _; omega)
    have HLA := Lib.hid (fun W hb => (level_loose s hs ao ns c W (HNn.out W hb).1 H9.out hl).mono (R' := fun e w' => e = .returned (.string tA) ∧ Below W.heap.size W w') (by rintro e w' ⟨r, rfl, hr, _, h⟩; obtain rfl : r = tA := bytes_ext (hr.out.trans htA.symm); exact ⟨rfl, h⟩))
    have HLB := Lib.hid (fun W hb => (level_loose s' hs' ao' ns' c' W (HNn.out W hb).2 H9'.out hl').mono (R' := fun e w' => e = .returned (.string tB) ∧ Below W.heap.size W w') (by rintro e w' ⟨r, rfl, hr, _, h⟩; obtain rfl : r = tB := bytes_ext (hr.out.trans htB.symm); exact ⟨rfl, h⟩))
    have HLL := Lib.hid (fun W => implLevels (tA ++ (⟨#[45]⟩ : ByteArray) ++ tB) (lvd s (CL.looseP ns)) (lvd s' (CL.looseP ns')) ns ns' (Hrl.out _ (by rw [app_bytes, app_bytes, htA, htB]; simp)) HlA.out.mem HlB.out.mem hl hl' W)
    rw [HlA.out.sens, HlB.out.sens] at HLL
    clear h34 Hrd htA htB
    go_upto_region 6 with fail
    go_cut [6, 7, 8] from 9 (fun s6 s7 s8 W6 => ∃ (g6 g7 : Nat) (av' au' : Option Addr) (cv' cu' : Nat), s6 = .pointer (some ⟨g6, 0, none⟩) ∧ s7 = .pointer (some ⟨g7, 0, none⟩) ∧ s8 = .bool true ∧ Two wc W6 s s' ns ns' g6 g7 av' au' cv' cu')
    case first =>
      have HB3 : Below wc.heap.size wc wc := Below.refl _ _
      have HS : Hid (S4 wc w.heap.size (.int .i64 s) (.slice ao ns.length c) (.int .i64 s') (.slice ao' ns'.length c') wc) := ⟨c0, c1, c2, c3, HB3⟩
      go_region_held3 (fun W => W.cell? ⟨w.heap.size, 0, none⟩ = some (.int .i64 s) ∧ W.cell? ⟨w.heap.size, 1, none⟩ = some (.slice ao ns.length c) ∧ W.cell? ⟨w.heap.size, 2, none⟩ = some (.int .i64 s') ∧ W.cell? ⟨w.heap.size, 3, none⟩ = some (.slice ao' ns'.length c') ∧ Below wc.heap.size wc W)
        (first | (refine S4.keep hlt0 HS.out ?_; repeat (first | exact HB3 | refine bl_alloc ?_ _ | refine Below.drew ?_ | (refine Below.setCell ?_ (by first | exact FA.lo | exact FB.lo | exact HB3.size | (show _ ≤ _; simp; have := HB3.size; omega)) _))))
        (first | (go_at_call 15; (with_reducible refine (HLA.out _ (by first | (with_reducible exact HB3) | (with_reducible exact HB3.drew) | (with_reducible exact bl_alloc HB3 _) | (with_reducible exact (bl_alloc HB3 _).drew) | (with_reducible exact bl_alloc HB3.drew _) | (with_reducible exact bl_alloc (bl_alloc HB3 _) _) | (with_reducible exact (bl_alloc (bl_alloc HB3 _) _).drew) | (with_reducible exact bl_alloc (bl_alloc HB3.drew _) _))).mono ?_); rintro e w6 ⟨rfl, hb4⟩; have HB0 := HB3; have HB3 := bl_step hb4 (by first | (with_reducible exact HB3) | (with_reducible exact HB3.drew) | (with_reducible exact bl_alloc HB3 _) | (with_reducible exact (bl_alloc HB3 _).drew) | (with_reducible exact bl_alloc HB3.drew _) | (with_reducible exact bl_alloc (bl_alloc HB3 _) _) | (with_reducible exact (bl_alloc (bl_alloc HB3 _) _).drew) | (with_reducible exact bl_alloc (bl_alloc HB3.drew _) _)); have hs4 := (S4.keep hlt0 HS.out HB3).parts; have c0 := hs4.1; have c1 := hs4.2.1; have c2 := hs4.2.2.1; have c3 := hs4.2.2.2; (first | (have FA := FA.below hb4; have FB := FB.below hb4) | (have nab := Nat.ne_of_lt FA.lt; have FA := (FA.alloc _).below hb4; have FB := (Fr.new HB0.size).below hb4) | (have nab := Nat.ne_of_lt FA.lt; have FA := (FA.alloc _).drew.below hb4; have FB := (Fr.new HB0.size).drew.below hb4) | have FA := FA.below hb4 | (have FA := ((Fr.new HB0.size).alloc _).below hb4; have FB := (Fr.new2 HB0.size _).below hb4) | (have FA := ((Fr.new HB0.size).alloc _).drew.below hb4; have FB := (Fr.new2 HB0.size _).drew.below hb4) | have FA := (Fr.new HB0.size).below hb4 | have FA := (Fr.new HB0.size).drew.below hb4 | skip); (first | (have a0 := FA.c0; have a1 := FA.c1; have a2 := FA.f0; have a3 := FA.f1; have la := FA.lt) | skip); (first | (have b0 := FB.c0; have b1 := FB.c1; have b2 := FB.f0; have b3 := FB.f1; have lb := FB.lt) | skip)) | (go_at_call 15; (with_reducible refine (HLB.out _ (by first | (with_reducible exact HB3) | (with_reducible exact HB3.drew) | (with_reducible exact bl_alloc HB3 _) | (with_reducible exact (bl_alloc HB3 _).drew) | (with_reducible exact bl_alloc HB3.drew _) | (with_reducible exact bl_alloc (bl_alloc HB3 _) _) | (with_reducible exact (bl_alloc (bl_alloc HB3 _) _).drew) | (with_reducible exact bl_alloc (bl_alloc HB3.drew _) _))).mono ?_); rintro e w7 ⟨rfl, hb4⟩; have HB0 := HB3; have HB3 := bl_step hb4 (by first | (with_reducible exact HB3) | (with_reducible exact HB3.drew) | (with_reducible exact bl_alloc HB3 _) | (with_reducible exact (bl_alloc HB3 _).drew) | (with_reducible exact bl_alloc HB3.drew _) | (with_reducible exact bl_alloc (bl_alloc HB3 _) _) | (with_reducible exact (bl_alloc (bl_alloc HB3 _) _).drew) | (with_reducible exact bl_alloc (bl_alloc HB3.drew _) _)); have hs4 := (S4.keep hlt0 HS.out HB3).parts; have c0 := hs4.1; have c1 := hs4.2.1; have c2 := hs4.2.2.1; have c3 := hs4.2.2.2; (first | (have FA := FA.below hb4; have FB := FB.below hb4) | (have nab := Nat.ne_of_lt FA.lt; have FA := (FA.alloc _).below hb4; have FB := (Fr.new HB0.size).below hb4) | (have nab := Nat.ne_of_lt FA.lt; have FA := (FA.alloc _).drew.below hb4; have FB := (Fr.new HB0.size).drew.below hb4) | have FA := FA.below hb4 | (have FA := ((Fr.new HB0.size).alloc _).below hb4; have FB := (Fr.new2 HB0.size _).below hb4) | (have FA := ((Fr.new HB0.size).alloc _).drew.below hb4; have FB := (Fr.new2 HB0.size _).drew.below hb4) | have FA := (Fr.new HB0.size).below hb4 | have FA := (Fr.new HB0.size).drew.below hb4 | skip); (first | (have a0 := FA.c0; have a1 := FA.c1; have a2 := FA.f0; have a3 := FA.f1; have la := FA.lt) | skip); (first | (have b0 := FB.c0; have b1 := FB.c1; have b2 := FB.f0; have b3 := FB.f1; have lb := FB.lt) | skip)) | (go_at_call 24; (with_reducible refine (HLL.out _).mono ?_); rintro e w8 ⟨v, u, rfl, ⟨hv, hu, hav, hau⟩, hb4⟩; obtain ⟨av', cv', rfl, hv1, hv2⟩ := hv; obtain ⟨au', cu', rfl, hu1, hu2⟩ := hu; have HB0 := HB3; have HB3 := bl_step hb4 (by first | (with_reducible exact HB3) | (with_reducible exact HB3.drew) | (with_reducible exact bl_alloc HB3 _) | (with_reducible exact (bl_alloc HB3 _).drew) | (with_reducible exact bl_alloc HB3.drew _) | (with_reducible exact bl_alloc (bl_alloc HB3 _) _) | (with_reducible exact (bl_alloc (bl_alloc HB3 _) _).drew) | (with_reducible exact bl_alloc (bl_alloc HB3.drew _) _)); have hs4 := (S4.keep hlt0 HS.out HB3).parts; have c0 := hs4.1; have c1 := hs4.2.1; have c2 := hs4.2.2.1; have c3 := hs4.2.2.2; (first | (have FA := FA.below hb4; have FB := FB.below hb4) | (have nab := Nat.ne_of_lt FA.lt; have FA := (FA.alloc _).below hb4; have FB := (Fr.new HB0.size).below hb4) | (have nab := Nat.ne_of_lt FA.lt; have FA := (FA.alloc _).drew.below hb4; have FB := (Fr.new HB0.size).drew.below hb4) | have FA := FA.below hb4 | (have FA := ((Fr.new HB0.size).alloc _).below hb4; have FB := (Fr.new2 HB0.size _).below hb4) | (have FA := ((Fr.new HB0.size).alloc _).drew.below hb4; have FB := (Fr.new2 HB0.size _).drew.below hb4) | have FA := (Fr.new HB0.size).below hb4 | have FA := (Fr.new HB0.size).drew.below hb4 | skip); (first | (have a0 := FA.c0; have a1 := FA.c1; have a2 := FA.f0; have a3 := FA.f1; have la := FA.lt) | skip); (first | (have b0 := FB.c0; have b1 := FB.c1; have b2 := FB.f0; have b3 := FB.f1; have lb := FB.lt) | skip); (first | (have pAv := FA.ap (ns := ns) hav (by first | omega | (simp <;> omega)); have pAu := FA.ap (ns := ns') hau (by first | omega | (simp <;> omega))) | skip); (first | (have pBv := FB.ap (ns := ns) hav (by first | omega | (simp <;> omega)); have pBu := FB.ap (ns := ns') hau (by first | omega | (simp <;> omega))) | skip)))
      all_goals go_wp2_with fail
      all_goals go_meet
      all_goals
        (case rel =>
          refine ⟨_, _, av', au', cv', cu', rfl, rfl, rfl, ?_⟩
          first
            | with_reducible exact Two.new HB3 hv1 hu1
            | with_reducible exact (Two.new HB3 hu1 hv1).swap
            | with_reducible exact Two.mix HB3 FA hv1 hu1 pAv pAu
            | with_reducible exact (Two.mix HB3 FA hu1 hv1 pAu pAv).swap
            | with_reducible exact Two.set HB3 FA FB (by first | exact nab | omega) hv1 hu1 pAv pBv pAu pBu
            | with_reducible exact Two.set HB3 FB FA (by first | exact nab.symm | omega) hv1 hu1 pBv pAv pBu pAu)
    case rest =>
      obtain ⟨g6, g7, av', au', cv', cu', rfl, rfl, rfl, h67⟩ := hcut
      have z0 := (h67.below.cell (p := ⟨w.heap.size, 0, none⟩) hlt0).trans c0
      have z1 := (h67.below.cell (p := ⟨w.heap.size, 1, none⟩) hlt0).trans c1
      have z2 := (h67.below.cell (p := ⟨w.heap.size, 2, none⟩) hlt0).trans c2
      have z3 := (h67.below.cell (p := ⟨w.heap.size, 3, none⟩) hlt0).trans c3
      have hlt6 := Nat.lt_of_lt_of_le hlt0 h67.below.size
      have G3 : Hid (wc.cell? ⟨g3, 0, none⟩ = some (.int .i64 s) ∧ wc.cell? ⟨g3, 1, none⟩ = some (.slice av ns.length cv)) := ⟨(h67.below.cell (p := ⟨g3, 0, none⟩) H34.out.lt).trans H34.out.c0, (h67.below.cell (p := ⟨g3, 1, none⟩) H34.out.lt).trans H34.out.c1⟩
      have G4 : Hid (wc.cell? ⟨g4, 0, none⟩ = some (.int .i64 s') ∧ wc.cell? ⟨g4, 1, none⟩ = some (.slice au ns'.length cu)) := ⟨(h67.below.cell (p := ⟨g4, 0, none⟩) H34.out.lt').trans H34.out.d0, (h67.below.cell (p := ⟨g4, 1, none⟩) H34.out.lt').trans H34.out.d1⟩
      have G6 : Hid (wc.cell? ⟨g6, 0, none⟩ = some (.int .i64 s) ∧ wc.cell? ⟨g6, 1, none⟩ = some (.slice av' ns.length cv')) := ⟨h67.c0, h67.c1⟩
      have G7 : Hid (wc.cell? ⟨g7, 0, none⟩ = some (.int .i64 s') ∧ wc.cell? ⟨g7, 1, none⟩ = some (.slice au' ns'.length cu')) := ⟨h67.d0, h67.d1⟩
      have G3l := Nat.lt_of_lt_of_le H34.out.lt h67.below.size
      have G4l := Nat.lt_of_lt_of_le H34.out.lt' h67.below.size
      have G6l := h67.lt
      have G7l := h67.lt'
      have NV3 : Hid (NatsAt wc av ns ∧ NatsAt wc au ns') := ⟨H34.out.v.below h67.below, H34.out.u.below h67.below⟩
      have NV6 : Hid (NatsAt wc av' ns ∧ NatsAt wc au' ns') := ⟨h67.v, h67.u⟩
      have NS : Hid (NatsAt wc ao ns ∧ NatsAt wc ao' ns') := HNn.out _ h67.below
      have HX : Hid (Below w.heap.size w wc) := HX.out.trans (h67.below.mono HX.out.size)
      have HB6 := Below.refl wc.heap.size wc
      clear h67 c0 c1 c2 c3 o0 o1 o2 o3 ha1 ha2 HLA HLB HLL
      have q0 := (HB6.cell (p := ⟨g3, 0, none⟩) G3l).trans G3.out.1
      have q1 := (HB6.cell (p := ⟨g3, 1, none⟩) G3l).trans G3.out.2
      have r0 := (HB6.cell (p := ⟨w.heap.size, 0, none⟩) hlt6).trans z0
      have r1 := (HB6.cell (p := ⟨w.heap.size, 1, none⟩) hlt6).trans z1
      go_wp2_with fail
      refine (level_same s av ns cv ao c _ ((NV3.out.1).below HB6) ((NS.out.1).below HB6) hl).mono ?_
      rintro e W7 ⟨rfl, hb4⟩
      have HB6 := bl_step hb4 HB6
      clear hb4
      have q0 := (HB6.cell (p := ⟨g4, 0, none⟩) G4l).trans G4.out.1
      have q1 := (HB6.cell (p := ⟨g4, 1, none⟩) G4l).trans G4.out.2
      have r0 := (HB6.cell (p := ⟨w.heap.size, 2, none⟩) hlt6).trans z2
      have r1 := (HB6.cell (p := ⟨w.heap.size, 3, none⟩) hlt6).trans z3
      go_wp2_with fail
      refine (level_same s' au ns' cu ao' c' _ ((NV3.out.2).below HB6) ((NS.out.2).below HB6) hl').mono ?_
      rintro e W8 ⟨rfl, hb4⟩
      have HB6 := bl_step hb4 HB6
      clear hb4
      have q0 := (HB6.cell (p := ⟨g6, 0, none⟩) G6l).trans G6.out.1
      have q1 := (HB6.cell (p := ⟨g6, 1, none⟩) G6l).trans G6.out.2
      have r0 := (HB6.cell (p := ⟨w.heap.size, 0, none⟩) hlt6).trans z0
      have r1 := (HB6.cell (p := ⟨w.heap.size, 1, none⟩) hlt6).trans z1
      go_wp2_with fail
      refine (level_same s av' ns cv' ao c _ ((NV6.out.1).below HB6) ((NS.out.1).below HB6) hl).mono ?_
      rintro e W9 ⟨rfl, hb4⟩
      have HB6 := bl_step hb4 HB6
      clear hb4
      have q0 := (HB6.cell (p := ⟨g7, 0, none⟩) G7l).trans G7.out.1
      have q1 := (HB6.cell (p := ⟨g7, 1, none⟩) G7l).trans G7.out.2
      have r0 := (HB6.cell (p := ⟨w.heap.size, 2, none⟩) hlt6).trans z2
      have r1 := (HB6.cell (p := ⟨w.heap.size, 3, none⟩) hlt6).trans z3
      go_wp2_with fail
      refine (level_same s' au' ns' cu' ao' c' _ ((NV6.out.2).below HB6) ((NS.out.2).below HB6) hl').mono ?_
      rintro e W10 ⟨rfl, hb4⟩
      have HB6 := bl_step hb4 HB6
      clear hb4
      have HX : Hid (Below w.heap.size w W10) := HX.out.trans (HB6.mono HX.out.size)
      go_wp2_with fail
      refine (works_ok _ (Ht.out.below HX.out)).mono ?_
      rintro e w9 ⟨rfl, hb9⟩
      go_wp2
      go_ret
      exact ⟨rfl, HX.out.trans (hb9.mono HX.out.size)⟩
end Go.Proofs.YtaloidnoeafgiaaDoor
