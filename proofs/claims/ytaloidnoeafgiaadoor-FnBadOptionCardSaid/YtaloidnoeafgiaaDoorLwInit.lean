/- the law FnInit: its walk. -/
import Derived.Test.YtaloidnoeafgiaaDoorInit5
import Derived.Deep.RegionHeld3
namespace Go.Proofs.YtaloidnoeafgiaaDoor
open Go.RowKit Go.Lib

theorem optOk_of {k d : ByteArray} (h : optB k d = true) : OptOk (k, d) := by
  unfold optB at h
  have hw : wordB d = true → d.size ≤ 1000 := fun h => by
    unfold wordB at h
    simp only [Bool.and_eq_true, decide_eq_true_eq] at h
    omega
  by_cases h1 : k = kD
  · exact Or.inl h1
  · rw [if_neg h1] at h
    by_cases h2 : k = kL
    · rw [if_pos h2] at h
      refine Or.inr ⟨Or.inl h2, ?_⟩
      rw [Bool.or_eq_true] at h
      rcases h with h | h
      · exact hw h
      · unfold labB at h
        simp only [Bool.and_eq_true, decide_eq_true_eq] at h
        have := h.2.2.2.2.2
        show d.size ≤ 1000
        omega
    · rw [if_neg h2] at h
      split at h
      · rename_i h3
        refine Or.inr ⟨Or.inr ?_, hw h⟩
        rcases h3 with h3 | h3 | h3 | h3
        · exact Or.inl h3
        · exact Or.inr (Or.inl h3)
        · exact Or.inr (Or.inr (Or.inl h3))
        · exact Or.inr (Or.inr (Or.inr h3))
      · cases h

theorem word_ok {s : ByteArray} (h : wordB s = true) : (58 : UInt8) ∉ s.data.toList ∧ s.size < 100 := by
  unfold wordB at h
  simp only [Bool.and_eq_true, decide_eq_true_eq] at h
  refine ⟨fun h1 => ?_, h.2.2⟩
  have := List.all_eq_true.1 h.1 _ h1
  exact absurd this (by decide)

theorem lab_ok {x : Lab} (h : labB x.u x.r x.t x.l = true) : x.Ok := by
  unfold labB at h
  simp only [Bool.and_eq_true, decide_eq_true_eq] at h
  obtain ⟨_, h1, h2, h3, h4⟩ := h
  have e1 := word_ok h1
  have e2 := word_ok h2
  have e3 := word_ok h3
  exact ⟨e1.1, e2.1, e3.1, by omega, by omega, by omega, by omega⟩

theorem initOut_unique {os : List (ByteArray × ByteArray)} {p m : Lab} {pr a b a' b' : ByteArray} (h : InitOut os p m pr a b) (h' : InitOut os p m pr a' b') : a = a' ∧ b = b' := by
  rcases h with ⟨p1, m1, h1, h2, h3⟩ | ⟨h1, h2, h3⟩
  · rcases h' with ⟨p2, m2, g1, g2, g3⟩ | ⟨g1, g2, g3⟩
    · rw [h1] at g1
      simp only [Option.some.injEq, Prod.mk.injEq] at g1
      obtain ⟨rfl, rfl⟩ := g1
      exact ⟨bytes_ext (h2.trans g2.symm), bytes_ext (h3.trans g3.symm)⟩
    · rw [h1] at g1; cases g1
  · rcases h' with ⟨p2, m2, g1, g2, g3⟩ | ⟨g1, g2, g3⟩
    · rw [h1] at g1; cases g1
    · exact ⟨bytes_ext (h2.trans g2.symm), h3.trans g3.symm⟩

theorem own_below {w w' : World} {B e n : Nat} {v : Value} {xs : List Value} (h : w.ownsRow B e 1 v n xs) (hb : Below w.heap.size w w') : w'.ownsRow B e 1 v n xs := by
  refine ⟨h.1, ?_⟩
  rcases h.2 with h' | ⟨g, cap, cur, h1, h2, h3, h4⟩
  · exact Or.inl h'
  · exact Or.inr ⟨g, cap, cur, h1, h2, (hb.block g (Array.getElem?_eq_some_iff.1 h3).1).trans h3, h4⟩

theorem LabAt.grown {w w' : World} {b : Nat} {x : Lab} {row : Option Nat} (h : LabAt w b x) (hg : w.grownBy w' row) (hr : ∀ k, row = some k → b < k) : LabAt w' b x :=
  (hg.block b h.lt (fun e => Nat.lt_irrefl _ (hr b e.symm))).trans h

theorem take_snoc (os : List (ByteArray × ByteArray)) (i : Nat) (h : i < os.length) (s : ByteArray) (ss : List ByteArray) (h1 : ss.map (fun x => x.data.toList) = (os.take i).map optT) (h2 : s.data.toList = optT (os.getD i (kD, kD))) :
    (ss ++ [s]).map (fun x => x.data.toList) = (os.take (i + 1)).map optT := by
  rw [List.map_append, h1, List.take_succ_eq_append_getElem h, List.map_append]
  have e : os.getD i (kD, kD) = os[i] := by simp [List.getD, List.getElem?_eq_getElem h]
  rw [← e]
  simp [h2]

set_option maxRecDepth 100000 in
set_option maxHeartbeats 8000000 in
theorem fnInit_walk (ao : Option Addr) (os : List (ByteArray × ByteArray)) (c : Nat) (p m : Lab) (pr : ByteArray) (w : World) (h : OptsAt w ao os) (hl : os.length ≤ 9223372036854775807) (hT : Tabs w) :
    Calls Tryd.prog 8 #[.slice ao os.length c, labV p.u p.r p.t p.l, labV m.u m.r m.t m.l, .string pr] w fun e w' => e = .returned (.bool true) ∧ Below w.heap.size w w' := by
  have hw := Lib.hid (fun w hT => works_ok w hT)
  have Ht := Lib.hid hT
  have H := Lib.hid h
  have L50 : LabAt (w.alloc (.cells (labCs p).toArray 41)) w.heap.size p := heap_alloc_new _ _
  have L60 : LabAt ((w.alloc (.cells (labCs p).toArray 41)).alloc (.cells (labCs m).toArray 41)) (w.heap.size + 1) m := by
    have := heap_alloc_new (w.alloc (.cells (labCs p).toArray 41)) (.cells (labCs m).toArray 41)
    unfold LabAt
    simpa using this
  have L5 : Hid (LabAt ((w.alloc (.cells (labCs p).toArray 41)).alloc (.cells (labCs m).toArray 41)) w.heap.size p) := L50.alloc _
  have L6 := Lib.hid L60
  have HB : Hid (Below w.heap.size w ((w.alloc (.cells (labCs p).toArray 41)).alloc (.cells (labCs m).toArray 41))) := ((Below.refl _ _).alloc (Nat.le_refl _) _).alloc (by simp) _
  have HF := Lib.hid (fun W hW => fits4_any ao os c W (h.below hW) hl)
  obtain ⟨n, hnn⟩ : ∃ n, n = os.length := ⟨_, rfl⟩
  have HN : Hid (n = os.length) := hnn
  rw [← hnn] at HF ⊢
  clear L50 L60 hT h hnn hl
  have d50 := row_cell (l := labCs p) L5.out (j := 0) rfl
  have d51 := row_cell (l := labCs p) L5.out (j := 1) rfl
  have d52 := row_cell (l := labCs p) L5.out (j := 2) rfl
  have d53 := row_cell (l := labCs p) L5.out (j := 3) rfl
  have d60 := row_cell (l := labCs m) L6.out (j := 0) rfl
  have d61 := row_cell (l := labCs m) L6.out (j := 1) rfl
  have d62 := row_cell (l := labCs m) L6.out (j := 2) rfl
  have d63 := row_cell (l := labCs m) L6.out (j := 3) rfl
  go_enter Tryd.func8, Tryd.ntmps8
  go_wp2_with fail
  refine (HF.out _ HB.out).mono ?_
  rintro e w2 ⟨⟨b, rfl, hb⟩, hb2⟩
  have L5 := Lib.hid (L5.out.below hb2)
  have L6 := Lib.hid (L6.out.below hb2)
  have HB := Lib.hid (HB.out.trans (hb2.mono HB.out.size))
  have d50 := row_cell (l := labCs p) L5.out (j := 0) rfl
  have d51 := row_cell (l := labCs p) L5.out (j := 1) rfl
  have d52 := row_cell (l := labCs p) L5.out (j := 2) rfl
  have d53 := row_cell (l := labCs p) L5.out (j := 3) rfl
  have d60 := row_cell (l := labCs m) L6.out (j := 0) rfl
  have d61 := row_cell (l := labCs m) L6.out (j := 1) rfl
  have d62 := row_cell (l := labCs m) L6.out (j := 2) rfl
  have d63 := row_cell (l := labCs m) L6.out (j := 3) rfl
  cases b
  · clear hb hb2 HF
    go_wp2_with fail
    go_ret
    exact ⟨rfl, HB.out⟩
  · have HS := Lib.hid (hb rfl)
    clear hb hb2 HF
    go_wp2_with fail
    refine (fits3_any p.u p.r p.t p.l _).mono ?_
    rintro e w3 ⟨rfl, hb3⟩
    have L5 := Lib.hid (L5.out.below hb3)
    have L6 := Lib.hid (L6.out.below hb3)
    have HB := Lib.hid (HB.out.trans (hb3.mono HB.out.size))
    have d50 := row_cell (l := labCs p) L5.out (j := 0) rfl
    have d51 := row_cell (l := labCs p) L5.out (j := 1) rfl
    have d52 := row_cell (l := labCs p) L5.out (j := 2) rfl
    have d53 := row_cell (l := labCs p) L5.out (j := 3) rfl
    have d60 := row_cell (l := labCs m) L6.out (j := 0) rfl
    have d61 := row_cell (l := labCs m) L6.out (j := 1) rfl
    have d62 := row_cell (l := labCs m) L6.out (j := 2) rfl
    have d63 := row_cell (l := labCs m) L6.out (j := 3) rfl
    clear hb3
    by_cases k1 : p.u.size ≤ 2147483647 ∧ p.r.size ≤ 2147483647 ∧ p.t.size ≤ 2147483647 ∧ p.l.size ≤ 2147483647
    · rw [decide_eq_true k1]
      go_wp2_with fail
      refine (fits3_any m.u m.r m.t m.l _).mono ?_
      rintro e w4 ⟨rfl, hb4⟩
      have L5 := Lib.hid (L5.out.below hb4)
      have L6 := Lib.hid (L6.out.below hb4)
      have HB := Lib.hid (HB.out.trans (hb4.mono HB.out.size))
      have d50 := row_cell (l := labCs p) L5.out (j := 0) rfl
      have d51 := row_cell (l := labCs p) L5.out (j := 1) rfl
      have d52 := row_cell (l := labCs p) L5.out (j := 2) rfl
      have d53 := row_cell (l := labCs p) L5.out (j := 3) rfl
      have d60 := row_cell (l := labCs m) L6.out (j := 0) rfl
      have d61 := row_cell (l := labCs m) L6.out (j := 1) rfl
      have d62 := row_cell (l := labCs m) L6.out (j := 2) rfl
      have d63 := row_cell (l := labCs m) L6.out (j := 3) rfl
      clear hb4
      by_cases k2 : m.u.size ≤ 2147483647 ∧ m.r.size ≤ 2147483647 ∧ m.t.size ≤ 2147483647 ∧ m.l.size ≤ 2147483647
      · rw [decide_eq_true k2]
        have Hpp := Lib.hid (fun W => label_proper p.u p.r p.t p.l ⟨by omega, by omega, by omega, by omega⟩ W)
        have Hmp := Lib.hid (fun W => label_proper m.u m.r m.t m.l ⟨by omega, by omega, by omega, by omega⟩ W)
        clear k1 k2
        by_cases k3 : pr.size ≤ 2147483647
        · have j3 : decide ((pr.size : Int) > 2147483647) = false := decide_eq_false (by omega)
          by_cases k4 : n ≤ 30
          · have j4 : decide ((n : Int) > 30) = false := decide_eq_false (by omega)
            by_cases k5 : pr.size ≤ 300
            · have j5 : decide ((pr.size : Int) > 300) = false := decide_eq_false (by omega)
              go_wp2_with fail
              refine (Hpp.out _).mono ?_
              rintro e w5 ⟨rfl, hb5⟩
              have L5 := Lib.hid (L5.out.below hb5)
              have L6 := Lib.hid (L6.out.below hb5)
              have HB := Lib.hid (HB.out.trans (hb5.mono HB.out.size))
              have d50 := row_cell (l := labCs p) L5.out (j := 0) rfl
              have d51 := row_cell (l := labCs p) L5.out (j := 1) rfl
              have d52 := row_cell (l := labCs p) L5.out (j := 2) rfl
              have d53 := row_cell (l := labCs p) L5.out (j := 3) rfl
              have d60 := row_cell (l := labCs m) L6.out (j := 0) rfl
              have d61 := row_cell (l := labCs m) L6.out (j := 1) rfl
              have d62 := row_cell (l := labCs m) L6.out (j := 2) rfl
              have d63 := row_cell (l := labCs m) L6.out (j := 3) rfl
              clear hb5
              cases hp : labB p.u p.r p.t p.l
              · clear hp
                go_wp2_with fail
                refine (hw.out _ (Ht.out.below HB.out)).mono ?_
                rintro e w9 ⟨rfl, hb9⟩
                go_wp2
                go_ret
                exact ⟨rfl, HB.out.trans (hb9.mono HB.out.size)⟩
              · have Hp := Lib.hid (lab_ok hp)
                clear hp
                go_wp2_with fail
                refine (Hmp.out _).mono ?_
                rintro e w6 ⟨rfl, hb6⟩
                have L5 := Lib.hid (L5.out.below hb6)
                have L6 := Lib.hid (L6.out.below hb6)
                have HB := Lib.hid (HB.out.trans (hb6.mono HB.out.size))
                have d50 := row_cell (l := labCs p) L5.out (j := 0) rfl
                have d51 := row_cell (l := labCs p) L5.out (j := 1) rfl
                have d52 := row_cell (l := labCs p) L5.out (j := 2) rfl
                have d53 := row_cell (l := labCs p) L5.out (j := 3) rfl
                have d60 := row_cell (l := labCs m) L6.out (j := 0) rfl
                have d61 := row_cell (l := labCs m) L6.out (j := 1) rfl
                have d62 := row_cell (l := labCs m) L6.out (j := 2) rfl
                have d63 := row_cell (l := labCs m) L6.out (j := 3) rfl
                clear hb6
                cases hm : labB m.u m.r m.t m.l
                · clear hm
                  go_wp2_with fail
                  refine (hw.out _ (Ht.out.below HB.out)).mono ?_
                  rintro e w9 ⟨rfl, hb9⟩
                  go_wp2
                  go_ret
                  exact ⟨rfl, HB.out.trans (hb9.mono HB.out.size)⟩
                · have Hm := Lib.hid (lab_ok hm)
                  clear hm Hpp Hmp
                  go_wp2_with fail
                  have hsz2 : Hid (w.heap.size + 2 ≤ w6.heap.size) := by have := L6.out.lt; show _ ≤ _; omega
                  obtain ⟨i0, hi, hz0, hz1, hz2⟩ := info_parts info9
                  have Hin := Lib.hid hi
                  go_loopg [9, 56] n (fun mc ov iv wr => ∃ (i : Nat) (ss : List ByteArray), iv = .int .i64 i ∧ Hid (mc + i = n) ∧ i ≤ n ∧ Hid (ss.map (fun x => x.data.toList) = (os.take i).map optT) ∧ Hid (∀ j, j < i → OptOk (os.getD j (kD, kD))) ∧ Hid (wr.ownsRow (w.heap.size + 2) 9 1 ov ss.length (strsV ss)) ∧ Hid (LabAt wr w.heap.size p) ∧ Hid (LabAt wr (w.heap.size + 1) m) ∧ Hid (Below w.heap.size w wr))
                  case atStart => exact ⟨0, [], rfl, rfl, Nat.zero_le _, rfl, fun j hj => absurd hj (Nat.not_lt_zero j), World.ownsRow_nil _ _ _ _, L5, L6, HB⟩
                  case round =>
                    obtain ⟨i, ss, rfl, hmc, hin0, hss, hok, hown, L5, L6, HB⟩ := hrel
                    clear d50 d51 d52 d53 d60 d61 d62 d63
                    have hsl : ss.length = i := by have h1 := congrArg List.length hss.out; have h2 := HN.out; simp at h1; omega
                    have Hsl := Lib.hid hsl
                    have hsl1 : ss.length ≤ 30 := by omega
                    clear hsl
                    by_cases hin : i < n
                    · have hlt : decide ((i : Int) < (n : Int)) = true := decide_eq_true (by omega)
                      have i0' : (0 : Int) ≤ (i : Int) := by omega
                      have i1 : (i : Int) < (n : Int) := by omega
                      obtain ⟨x, rfl, hx, c0, c1⟩ := (H.out.below HB.out) i (by have := HN.out; omega)
                      have hsz := HS.out i (by have := HN.out; omega)
                      obtain ⟨⟨k, d⟩, ho⟩ : ∃ o, o = os.getD i (kD, kD) := ⟨_, rfl⟩
                      have HO : Hid ((k, d) = os.getD i (kD, kD)) := ho
                      rw [← ho] at c0 c1 hsz
                      clear ho
                      simp only at c0 c1 hsz
                      have Hpr := Lib.hid (fun W => option_proper k d hsz.2 W)
                      have Htx := Lib.hid (fun W => option_text k d hsz.1 hsz.2 W)
                      have HB1 : Hid (Below w.heap.size w (wr.alloc (.cells #[.string k, .string d] 44))) := HB.out.alloc HB.out.size _
                      have M5 : Hid (LabAt (wr.alloc (.cells #[.string k, .string d] 44)) w.heap.size p) := L5.out.alloc _
                      have M6 : Hid (LabAt (wr.alloc (.cells #[.string k, .string d] 44)) (w.heap.size + 1) m) := L6.out.alloc _
                      have MO : Hid ((wr.alloc (.cells #[.string k, .string d] 44)).ownsRow (w.heap.size + 2) 9 1 u9 ss.length (strsV ss)) := hown.out.alloc _
                      have hbx := heap_alloc_new wr (.cells #[.string k, .string d] 44)
                      have b0 := row_cell (l := [.string k, .string d]) hbx (j := 0) rfl
                      have b1 := row_cell (l := [.string k, .string d]) hbx (j := 1) rfl
                      have blt := (Array.getElem?_eq_some_iff.1 hbx).1
                      clear hsz L5 L6 HB hown hbx
                      go_wp2_with fail
                      refine (Hpr.out _).mono ?_
                      rintro e w7 ⟨rfl, hb7⟩
                      have HB := Lib.hid (HB1.out.trans (hb7.mono HB1.out.size))
                      have L5 := Lib.hid (M5.out.below hb7)
                      have L6 := Lib.hid (M6.out.below hb7)
                      have MO := Lib.hid (own_below MO.out hb7)
                      have b0 := (hb7.cell (p := ⟨wr.heap.size, 0, none⟩) blt).trans b0
                      have b1 := (hb7.cell (p := ⟨wr.heap.size, 1, none⟩) blt).trans b1
                      clear hb7 HB1 M5 M6 c0 c1
                      cases hob : optB k d
                      · clear hob
                        go_wp2_with fail
                        refine (hw.out _ (Ht.out.below HB.out)).mono ?_
                        rintro e w9 ⟨rfl, hb9⟩
                        go_wp2
                        go_ret
                        exact ⟨rfl, HB.out.trans (hb9.mono HB.out.size)⟩
                      · have Hob : Hid (OptOk (k, d)) := optOk_of hob
                        clear hob
                        go_wp2_with fail
                        refine (Htx.out _).mono ?_
                        rintro e w8 ⟨s, rfl, hs, hb8⟩
                        have HB := Lib.hid (HB.out.trans (hb8.mono HB.out.size))
                        have L5 := Lib.hid (L5.out.below hb8)
                        have L6 := Lib.hid (L6.out.below hb8)
                        have hown := own_below MO.out hb8
                        have hsz8 : w.heap.size + 2 ≤ w8.heap.size := by have := L6.out.lt; omega
                        obtain ⟨ao', cc, rfl⟩ := owns_shape' hown
                        clear hb8 MO
                        go_wp2_with (at_builtin; refine wpList_append_own _ rfl (.tmp 64) (.tmp 67) 47 rfl (w.heap.size + 2) 9 i0 (.string ⟨#[]⟩) 1 16 Tryd.underlying47 hi hz0 hz1 hz2 rfl (by decide) _ _ _ rfl (hown.alloc _) ⟨w8.heap.size, 0, none⟩ 1 1 [.string s] rfl rfl (cell_one_new _ _ _) (one_str _) (by unfold maxLen; omega) (by omega) (by simp; omega) ?_; intro v' w9 hown2 hgrow2 _)
                        go_roundg (gk - 1)
                        case measure => have := hmc.out; omega
                        case rel =>
                          have e1 := hmc.out
                          have hge := own_block_ge hown
                          refine ⟨i + 1, ss ++ [s], by go_num, show _ = _ by omega, by omega, take_snoc os i (by have := HN.out; omega) s ss hss.out (by rw [← HO.out]; exact hs.out), ?_, ?_, (L5.out.alloc _).grown hgrow2 (fun k hk => by have := hge k hk; omega), (L6.out.alloc _).grown hgrow2 (fun k hk => by have := hge k hk; omega), (HB.out.alloc HB.out.size _).grown hgrow2 (Nat.le_trans HB.out.size ((Below.refl 0 w8).alloc (Nat.zero_le _) _).size) (fun k hk => by have := hge k hk; omega)⟩
                          · intro j hj
                            by_cases hji : j = i
                            · rw [hji, ← HO.out]; exact Hob.out
                            · exact hok.out j (by omega)
                          · have e : strsV (ss ++ [s]) = strsV ss ++ [.string s] := by simp [strsV]
                            show World.ownsRow _ _ _ _ _ _ _
                            rw [e, List.length_append]
                            exact hown2
                    · obtain rfl : i = n := by omega
                      have hlt : decide ((i : Int) < (i : Int)) = false := by simp
                      have Hss : Hid (ss.map (fun x => x.data.toList) = os.map optT) := by
                        show _ = _
                        rw [hss.out, List.take_of_length_le (by have := HN.out; omega)]
                      have Hok : Hid (∀ o ∈ os, OptOk o) := by
                        intro o ho
                        obtain ⟨j, hj, rfl⟩ := List.getElem_of_mem ho
                        have := hok.out j (by have := HN.out; omega)
                        simpa [List.getD, List.getElem?_eq_getElem hj] using this
                      have hnl : os.length ≤ 1000 := by have := HN.out; omega
                      have Hsi := Lib.hid (fun W hW => specInit_ok ao os c Hok.out hnl pr p m Hp.out.small Hm.out.small W hW)
                      rw [← HN.out] at Hsi
                      have d50 := row_cell (l := labCs p) L5.out (j := 0) rfl
                      have d51 := row_cell (l := labCs p) L5.out (j := 1) rfl
                      have d52 := row_cell (l := labCs p) L5.out (j := 2) rfl
                      have d53 := row_cell (l := labCs p) L5.out (j := 3) rfl
                      have d60 := row_cell (l := labCs m) L6.out (j := 0) rfl
                      have d61 := row_cell (l := labCs m) L6.out (j := 1) rfl
                      have d62 := row_cell (l := labCs m) L6.out (j := 2) rfl
                      have d63 := row_cell (l := labCs m) L6.out (j := 3) rfl
                      clear hss hok hnl
                      go_wp2_with fail
                      refine (Hsi.out _ (H.out.below HB.out)).mono ?_
                      rintro e w7 ⟨a0, b0, rfl, hout0, hb7⟩
                      have l5 := Nat.lt_of_lt_of_le L5.out.lt hb7.size
                      have l6 := Nat.lt_of_lt_of_le L6.out.lt hb7.size
                      have L5 := Lib.hid (L5.out.below hb7)
                      have L6 := Lib.hid (L6.out.below hb7)
                      have HB := Lib.hid (HB.out.trans (hb7.mono HB.out.size))
                      have MO := Lib.hid (own_below hown.out hb7)
                      have d50 := row_cell (l := labCs p) L5.out (j := 0) rfl
                      have o50 := row_cell (l := labCs p) L5.out (j := 0) rfl
                      have d51 := row_cell (l := labCs p) L5.out (j := 1) rfl
                      have o51 := row_cell (l := labCs p) L5.out (j := 1) rfl
                      have d52 := row_cell (l := labCs p) L5.out (j := 2) rfl
                      have o52 := row_cell (l := labCs p) L5.out (j := 2) rfl
                      have d53 := row_cell (l := labCs p) L5.out (j := 3) rfl
                      have o53 := row_cell (l := labCs p) L5.out (j := 3) rfl
                      have d60 := row_cell (l := labCs m) L6.out (j := 0) rfl
                      have o60 := row_cell (l := labCs m) L6.out (j := 0) rfl
                      have d61 := row_cell (l := labCs m) L6.out (j := 1) rfl
                      have o61 := row_cell (l := labCs m) L6.out (j := 1) rfl
                      have d62 := row_cell (l := labCs m) L6.out (j := 2) rfl
                      have o62 := row_cell (l := labCs m) L6.out (j := 2) rfl
                      have d63 := row_cell (l := labCs m) L6.out (j := 3) rfl
                      have o63 := row_cell (l := labCs m) L6.out (j := 3) rfl
                      have HG := Lib.hid (fun W => label_text p.u p.r p.t p.l Hp.out.small.sized W)
                      have HG2 := Lib.hid (fun W => label_text m.u m.r m.t m.l Hm.out.small.sized W)
                      have HI := Lib.hid (fun s1 s2 h1 h2 W hW => implInit_ok (w.heap.size + 2) _ ss os Hss.out Hok.out (Nat.le_trans hsl1 (by decide)) s1 s2 pr p m h1 h2 Hp.out Hm.out W (own_below MO.out hW))
                      clear hb7 L5 L6 hown Hsi
                      go_wp2_with fail
                      go_region_held3 (fun W => W.cell? ⟨w.heap.size, 0, none⟩ = some (.string p.u) ∧ W.cell? ⟨w.heap.size, 1, none⟩ = some (.string p.r) ∧ W.cell? ⟨w.heap.size, 2, none⟩ = some (.string p.t) ∧ W.cell? ⟨w.heap.size, 3, none⟩ = some (.string p.l) ∧ W.cell? ⟨w.heap.size + 1, 0, none⟩ = some (.string m.u) ∧ W.cell? ⟨w.heap.size + 1, 1, none⟩ = some (.string m.r) ∧ W.cell? ⟨w.heap.size + 1, 2, none⟩ = some (.string m.t) ∧ W.cell? ⟨w.heap.size + 1, 3, none⟩ = some (.string m.l) ∧ Below w7.heap.size w7 W)
                        (first | exact ⟨d50, d51, d52, d53, d60, d61, d62, d63, HB3⟩ | exact ⟨d50, d51, d52, d53, d60, d61, d62, d63, (Below.refl _ w7).drew⟩)
                        (first | (go_at_call 31; with_reducible refine (HG.out _).mono ?_; rintro e w8 ⟨s1, rfl, hs1, hb4⟩; have HB3 : Below w7.heap.size w7 w8 := (by first | exact HB3.trans (hb4.mono HB3.size) | exact ((Below.refl _ w7).drew).trans (hb4.mono (Nat.le_refl _))); have d50 := (HB3.cell (p := ⟨w.heap.size, 0, none⟩) l5).trans o50; have d51 := (HB3.cell (p := ⟨w.heap.size, 1, none⟩) l5).trans o51; have d52 := (HB3.cell (p := ⟨w.heap.size, 2, none⟩) l5).trans o52; have d53 := (HB3.cell (p := ⟨w.heap.size, 3, none⟩) l5).trans o53; have d60 := (HB3.cell (p := ⟨w.heap.size + 1, 0, none⟩) l6).trans o60; have d61 := (HB3.cell (p := ⟨w.heap.size + 1, 1, none⟩) l6).trans o61; have d62 := (HB3.cell (p := ⟨w.heap.size + 1, 2, none⟩) l6).trans o62; have d63 := (HB3.cell (p := ⟨w.heap.size + 1, 3, none⟩) l6).trans o63) | (go_at_call 31; with_reducible refine (HG2.out _).mono ?_; rintro e w9 ⟨s2, rfl, hs2, hb4⟩; have HB3 : Below w7.heap.size w7 w9 := (by first | exact HB3.trans (hb4.mono HB3.size) | exact ((Below.refl _ w7).drew).trans (hb4.mono (Nat.le_refl _))); have d50 := (HB3.cell (p := ⟨w.heap.size, 0, none⟩) l5).trans o50; have d51 := (HB3.cell (p := ⟨w.heap.size, 1, none⟩) l5).trans o51; have d52 := (HB3.cell (p := ⟨w.heap.size, 2, none⟩) l5).trans o52; have d53 := (HB3.cell (p := ⟨w.heap.size, 3, none⟩) l5).trans o53; have d60 := (HB3.cell (p := ⟨w.heap.size + 1, 0, none⟩) l6).trans o60; have d61 := (HB3.cell (p := ⟨w.heap.size + 1, 1, none⟩) l6).trans o61; have d62 := (HB3.cell (p := ⟨w.heap.size + 1, 2, none⟩) l6).trans o62; have d63 := (HB3.cell (p := ⟨w.heap.size + 1, 3, none⟩) l6).trans o63) | (go_at_call 30; refine (HI.out s1 s2 hs1.out hs2.out _ (by exact HB3)).mono ?_; rintro e w10 ⟨a, b, rfl, hout, hb4⟩; have HB3 : Below w7.heap.size w7 w10 := (by first | exact HB3.trans (hb4.mono HB3.size) | exact ((Below.refl _ w7).drew).trans (hb4.mono (Nat.le_refl _))); have d50 := (HB3.cell (p := ⟨w.heap.size, 0, none⟩) l5).trans o50; have d51 := (HB3.cell (p := ⟨w.heap.size, 1, none⟩) l5).trans o51; have d52 := (HB3.cell (p := ⟨w.heap.size, 2, none⟩) l5).trans o52; have d53 := (HB3.cell (p := ⟨w.heap.size, 3, none⟩) l5).trans o53; have d60 := (HB3.cell (p := ⟨w.heap.size + 1, 0, none⟩) l6).trans o60; have d61 := (HB3.cell (p := ⟨w.heap.size + 1, 1, none⟩) l6).trans o61; have d62 := (HB3.cell (p := ⟨w.heap.size + 1, 2, none⟩) l6).trans o62; have d63 := (HB3.cell (p := ⟨w.heap.size + 1, 3, none⟩) l6).trans o63))
                      all_goals obtain ⟨rfl, rfl⟩ := initOut_unique hout0.out hout.out
                      all_goals have HB := Lib.hid (HB.out.trans (HB3.mono HB.out.size))
                      all_goals go_wp2_with fail
                      all_goals
                        refine (hw.out _ (Ht.out.below HB.out)).mono ?_
                        rintro e w11 ⟨rfl, hb9⟩
                        go_wp2
                        go_ret
                        exact ⟨rfl, HB.out.trans (hb9.mono HB.out.size)⟩
            · have j5 : decide ((pr.size : Int) > 300) = true := decide_eq_true (by omega)
              go_wp2_with fail
              refine (hw.out _ (Ht.out.below HB.out)).mono ?_
              rintro e w9 ⟨rfl, hb9⟩
              go_wp2
              go_ret
              exact ⟨rfl, HB.out.trans (hb9.mono HB.out.size)⟩
          · have j4 : decide ((n : Int) > 30) = true := decide_eq_true (by omega)
            go_wp2_with fail
            refine (hw.out _ (Ht.out.below HB.out)).mono ?_
            rintro e w9 ⟨rfl, hb9⟩
            go_wp2
            go_ret
            exact ⟨rfl, HB.out.trans (hb9.mono HB.out.size)⟩
        · have j3 : decide ((pr.size : Int) > 2147483647) = true := decide_eq_true (by omega)
          go_wp2_with fail
          go_ret
          exact ⟨rfl, HB.out⟩
      · rw [decide_eq_false k2]
        clear k1 k2
        go_wp2_with fail
        go_ret
        exact ⟨rfl, HB.out⟩
    · rw [decide_eq_false k1]
      clear k1
      go_wp2_with fail
      go_ret
      exact ⟨rfl, HB.out⟩
end Go.Proofs.YtaloidnoeafgiaaDoor
