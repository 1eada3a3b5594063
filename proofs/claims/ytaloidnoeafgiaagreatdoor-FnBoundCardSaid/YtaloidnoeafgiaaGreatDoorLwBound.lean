/- the law FnBound: its walk where both ranges are proper. -/
import Derived.Test.YtaloidnoeafgiaaGreatDoorBnd
import Derived.Test.YtaloidnoeafgiaaGreatDoorS4
import Derived.Deep.RegionHeld3
import Derived.Deep.CutRange
namespace Go.Proofs.YtaloidnoeafgiaaGreatDoor
open Go.RowKit Go.Lib

/-- a span's value -/
abbrev spanV (s : Nat) (ao : Option Addr) (n c : Nat) (s' : Nat) (ao' : Option Addr) (n' c' : Nat) : Value := .agg #[.int .i64 s, .slice ao n c, .int .i64 s', .slice ao' n' c']

set_option maxRecDepth 100000 in
set_option maxHeartbeats 8000000 in
theorem fnBound_in (s s' t t' : Nat) (ao : Option Addr) (n c : Nat) (ao' : Option Addr) (n' c' : Nat) (bo : Option Addr) (k d : Nat) (bo' : Option Addr) (k' d' : Nat) (w : World) (hT : Tabs w)
    (hss : s ≤ s') (htt : t ≤ t') (hn : n ≤ 500 ∧ n' ≤ 500 ∧ k ≤ 500 ∧ k' ≤ 500)
    (hsa : ∀ W, Below w.heap.size w W → Calls Tryz.prog 7 #[.agg #[.int .i64 s, .slice ao n c, .int .i64 s', .slice ao' n' c']] W fun e w' => e = .returned (.bool true) ∧ Below W.heap.size W w')
    (hsb : ∀ W, Below w.heap.size w W → Calls Tryz.prog 7 #[.agg #[.int .i64 t, .slice bo k d, .int .i64 t', .slice bo' k' d']] W fun e w' => e = .returned (.bool true) ∧ Below W.heap.size W w')
    (q : Bool) (tA tB tG : ByteArray) (m0 m1 : Nat) (l1 l2 : List Nat) (hl1 : l1.length ≤ 500) (hl2 : l2.length ≤ 500)
    (hta : ∀ W, Below w.heap.size w W → Calls Tryz.prog 11 #[.agg #[.int .i64 s, .slice ao n c, .int .i64 s', .slice ao' n' c']] W fun e w' => e = .returned (.string tA) ∧ Below W.heap.size W w')
    (htb : ∀ W, Below w.heap.size w W → Calls Tryz.prog 11 #[.agg #[.int .i64 t, .slice bo k d, .int .i64 t', .slice bo' k' d']] W fun e w' => e = .returned (.string tB) ∧ Below W.heap.size W w')
    (hbd : ∀ W, Below w.heap.size w W → Calls Tryz.prog 9 #[.agg #[.int .i64 s, .slice ao n c, .int .i64 s', .slice ao' n' c'], .agg #[.int .i64 t, .slice bo k d, .int .i64 t', .slice bo' k' d']] W
      fun e w' => ∃ (av au : Option Addr) (cv cu : Nat), e = .returned (.tuple #[.agg #[.int .i64 m0, .slice av l1.length cv, .int .i64 m1, .slice au l2.length cu], .bool q]) ∧ NatsAt w' av l1 ∧ NatsAt w' au l2 ∧ Below W.heap.size W w')
    (hab : ∀ W, Tabs W → Calls Tryz.prog 10 #[.string tA, .string tB] W fun e w' => e = .returned (.tuple #[.string tG, .bool q]) ∧ Below W.heap.size W w')
    (hba : ∀ W, Tabs W → Calls Tryz.prog 10 #[.string tB, .string tA] W fun e w' => e = .returned (.tuple #[.string tG, .bool q]) ∧ Below W.heap.size W w')
    (hrd : q = true → ∃ a c, ReadsAs tG a c ∧ Lv a m0 l1 ∧ Lv c m1 l2) :
    Calls Tryz.prog 3 #[.agg #[.int .i64 s, .slice ao n c, .int .i64 s', .slice ao' n' c'], .agg #[.int .i64 t, .slice bo k d, .int .i64 t', .slice bo' k' d']] w fun e w' => e = .returned (.bool true) ∧ Below w.heap.size w w' := by
  have Ht := Lib.hid hT
  have Hsa := Lib.hid hsa
  have Hsb := Lib.hid hsb
  have Hta := Lib.hid hta
  have Htb := Lib.hid htb
  have Hbd := Lib.hid hbd
  have Hab := Lib.hid hab
  have Hba := Lib.hid hba
  have Hrd := Lib.hid hrd
  have Hfa := Lib.hid (fits1 s ao n c s' ao' n' c')
  have Hfb := Lib.hid (fits1 t bo k d t' bo' k' d')
  have e1 : decide (n ≤ 2147483647 ∧ n' ≤ 2147483647) = true := by simp; omega
  have e2 : decide (k ≤ 2147483647 ∧ k' ≤ 2147483647) = true := by simp; omega
  rw [e1] at Hfa
  rw [e2] at Hfb
  have g1 : decide ((s : Int) > (s' : Int)) = false := by simp; omega
  have g2 : decide ((t : Int) > (t' : Int)) = false := by simp; omega
  have g1n : decide (s' < s) = false := by simp; omega
  have g2n : decide (t' < t) = false := by simp; omega
  have Hl1 := Lib.hid hl1
  have Hl2 := Lib.hid hl2
  clear hT hsa hsb hta htb hbd hab hba hrd e1 e2 hss htt hn hl1 hl2
  have HV0 : Hid (Below w.heap.size w ((w.alloc (.cells #[.int .i64 s, .slice ao n c, .int .i64 s', .slice ao' n' c'] 26)).alloc (.cells #[.int .i64 t, .slice bo k d, .int .i64 t', .slice bo' k' d'] 26))) := ((Below.refl _ _).alloc (Nat.le_refl _) _).alloc (by simp) _
  have r0 : ((w.alloc (.cells #[.int .i64 s, .slice ao n c, .int .i64 s', .slice ao' n' c'] 26)).alloc (.cells #[.int .i64 t, .slice bo k d, .int .i64 t', .slice bo' k' d'] 26)).heap[w.heap.size]? = some (.cells #[.int .i64 s, .slice ao n c, .int .i64 s', .slice ao' n' c'] 26 (0, 0)) := by
    rw [Below.heap_alloc _ _ _ (by simp)]; exact heap_alloc_new _ _
  have r1 : ((w.alloc (.cells #[.int .i64 s, .slice ao n c, .int .i64 s', .slice ao' n' c'] 26)).alloc (.cells #[.int .i64 t, .slice bo k d, .int .i64 t', .slice bo' k' d'] 26)).heap[w.heap.size + 1]? = some (.cells #[.int .i64 t, .slice bo k d, .int .i64 t', .slice bo' k' d'] 26 (0, 0)) := by
    have h := heap_alloc_new (w.alloc (.cells #[.int .i64 s, .slice ao n c, .int .i64 s', .slice ao' n' c'] 26)) (.cells #[.int .i64 t, .slice bo k d, .int .i64 t', .slice bo' k' d'] 26)
    simpa using h
  have HS0 : Hid (S8 ((w.alloc (.cells #[.int .i64 s, .slice ao n c, .int .i64 s', .slice ao' n' c'] 26)).alloc (.cells #[.int .i64 t, .slice bo k d, .int .i64 t', .slice bo' k' d'] 26)) w.heap.size (w.heap.size + 1) (.int .i64 s) (.slice ao n c) (.int .i64 s') (.slice ao' n' c') (.int .i64 t) (.slice bo k d) (.int .i64 t') (.slice bo' k' d') ((w.alloc (.cells #[.int .i64 s, .slice ao n c, .int .i64 s', .slice ao' n' c'] 26)).alloc (.cells #[.int .i64 t, .slice bo k d, .int .i64 t', .slice bo' k' d'] 26))) :=
    ⟨row_cell (l := [.int .i64 s, .slice ao n c, .int .i64 s', .slice ao' n' c']) r0 (j := 0) rfl, row_cell (l := [.int .i64 s, .slice ao n c, .int .i64 s', .slice ao' n' c']) r0 (j := 1) rfl, row_cell (l := [.int .i64 s, .slice ao n c, .int .i64 s', .slice ao' n' c']) r0 (j := 2) rfl, row_cell (l := [.int .i64 s, .slice ao n c, .int .i64 s', .slice ao' n' c']) r0 (j := 3) rfl,
     row_cell (l := [.int .i64 t, .slice bo k d, .int .i64 t', .slice bo' k' d']) r1 (j := 0) rfl, row_cell (l := [.int .i64 t, .slice bo k d, .int .i64 t', .slice bo' k' d']) r1 (j := 1) rfl, row_cell (l := [.int .i64 t, .slice bo k d, .int .i64 t', .slice bo' k' d']) r1 (j := 2) rfl, row_cell (l := [.int .i64 t, .slice bo k d, .int .i64 t', .slice bo' k' d']) r1 (j := 3) rfl, Below.refl _ _⟩
  have hv0 := (Array.getElem?_eq_some_iff.1 r0).1
  have hv1 := (Array.getElem?_eq_some_iff.1 r1).1
  clear r0 r1
  go_enter Tryz.func3, Tryz.ntmps3
  go_wp2_with fail
  generalize ((w.alloc (.cells #[.int .i64 s, .slice ao n c, .int .i64 s', .slice ao' n' c'] 26)).alloc (.cells #[.int .i64 t, .slice bo k d, .int .i64 t', .slice bo' k' d'] 26)) = V at *
  have HB : Hid (Below V.heap.size V V) := Below.refl _ _
  refine (Hfa.out _).mono ?_
  rintro e w3 ⟨rfl, hb3⟩
  have HB : Hid (Below V.heap.size V w3) := bl_step hb3 HB.out
  obtain ⟨a0, a1, a2, a3, b0, b1, b2, b3, -⟩ := S8.keep hv0 hv1 HS0.out HB.out
  clear hb3
  go_wp2_with fail
  refine (Hfb.out _).mono ?_
  rintro e w4 ⟨rfl, hb3⟩
  have HB : Hid (Below V.heap.size V w4) := bl_step hb3 HB.out
  clear a0 a1 a2 a3 b0 b1 b2 b3
  obtain ⟨a0, a1, a2, a3, b0, b1, b2, b3, -⟩ := S8.keep hv0 hv1 HS0.out HB.out
  clear hb3
  go_wp2_with fail
  refine (Hsa.out _ (HV0.out.trans (HB.out.mono HV0.out.size))).mono ?_
  rintro e w5 ⟨rfl, hb3⟩
  have HB : Hid (Below V.heap.size V w5) := bl_step hb3 HB.out
  clear a0 a1 a2 a3 b0 b1 b2 b3
  obtain ⟨a0, a1, a2, a3, b0, b1, b2, b3, -⟩ := S8.keep hv0 hv1 HS0.out HB.out
  clear hb3
  go_wp2_with fail
  refine (Hsb.out _ (HV0.out.trans (HB.out.mono HV0.out.size))).mono ?_
  rintro e w6 ⟨rfl, hb3⟩
  have HB : Hid (Below V.heap.size V w6) := bl_step hb3 HB.out
  clear a0 a1 a2 a3 b0 b1 b2 b3
  obtain ⟨a0, a1, a2, a3, b0, b1, b2, b3, -⟩ := S8.keep hv0 hv1 HS0.out HB.out
  clear hb3
  go_wp2_with fail
  refine (Hbd.out _ (HV0.out.trans (HB.out.mono HV0.out.size))).mono ?_
  rintro e w7 ⟨av, au, cv, cu, rfl, hav, hau, hb3⟩
  have HB : Hid (Below V.heap.size V w7) := bl_step hb3 HB.out
  have Hav := Lib.hid hav
  have Hau := Lib.hid hau
  clear a0 a1 a2 a3 b0 b1 b2 b3 hb3 hav hau
  go_upto_region 6 with fail
  have hU : Below w7.heap.size w7 (w7.alloc (.cells #[.int .i64 m0, .slice av l1.length cv, .int .i64 m1, .slice au l2.length cu] 26)) := (Below.refl _ _).alloc (Nat.le_refl _) _
  have hrow := heap_alloc_new w7 (.cells #[.int .i64 m0, .slice av l1.length cv, .int .i64 m1, .slice au l2.length cu] 26)
  generalize (w7.alloc (.cells #[.int .i64 m0, .slice av l1.length cv, .int .i64 m1, .slice au l2.length cu] 26)) = U at *
  have Hav : Hid (NatsAt U av l1) := Hav.out.below hU
  have Hau : Hid (NatsAt U au l2) := Hau.out.below hU
  have HU : Hid (Below w.heap.size w U) := HV0.out.trans ((HB.out.trans (hU.mono HB.out.size)).mono HV0.out.size)
  have hs8 := S8.keep hv0 hv1 HS0.out (HB.out.trans (hU.mono HB.out.size))
  have hU2 := HB.out.trans (hU.mono HB.out.size)
  have hv0 := Nat.lt_of_lt_of_le hv0 hU2.size
  have hv1 := Nat.lt_of_lt_of_le hv1 hU2.size
  have HS : Hid (S8 U w.heap.size (w.heap.size + 1) (.int .i64 s) (.slice ao n c) (.int .i64 s') (.slice ao' n' c') (.int .i64 t) (.slice bo k d) (.int .i64 t') (.slice bo' k' d') U) := ⟨hs8.1, hs8.2.1, hs8.2.2.1, hs8.2.2.2.1, hs8.2.2.2.2.1, hs8.2.2.2.2.2.1, hs8.2.2.2.2.2.2.1, hs8.2.2.2.2.2.2.2.1, Below.refl _ _⟩
  have Hrow := Lib.hid hrow
  clear hs8 hU hU2 HB HS0 HV0 hrow
  go_cut [7, 8] from 55 to 62 (fun s7 s8 wc => s7 = .string tG ∧ s8 = .bool q ∧ Below U.heap.size U wc)
  case first =>
    obtain ⟨a0, a1, a2, a3, b0, b1, b2, b3, HB3⟩ := HS.out
    go_region_held3 (fun W => W.cell? ⟨w.heap.size, 0, none⟩ = some (.int .i64 s) ∧ W.cell? ⟨w.heap.size, 1, none⟩ = some (.slice ao n c) ∧ W.cell? ⟨w.heap.size, 2, none⟩ = some (.int .i64 s') ∧ W.cell? ⟨w.heap.size, 3, none⟩ = some (.slice ao' n' c') ∧ W.cell? ⟨w.heap.size + 1, 0, none⟩ = some (.int .i64 t) ∧ W.cell? ⟨w.heap.size + 1, 1, none⟩ = some (.slice bo k d) ∧ W.cell? ⟨w.heap.size + 1, 2, none⟩ = some (.int .i64 t') ∧ W.cell? ⟨w.heap.size + 1, 3, none⟩ = some (.slice bo' k' d') ∧ Below U.heap.size U W)
      (first | exact S8.keep hv0 hv1 HS.out HB3 | exact S8.keep hv0 hv1 HS.out HB3.drew)
      (first
        | (go_at_call 11; (first | (with_reducible refine (Hta.out _ (HU.out.trans (HB3.mono HU.out.size))).mono ?_) | (with_reducible refine (Hta.out _ (HU.out.trans (HB3.drew.mono HU.out.size))).mono ?_) | (with_reducible refine (Htb.out _ (HU.out.trans (HB3.mono HU.out.size))).mono ?_) | (with_reducible refine (Htb.out _ (HU.out.trans (HB3.drew.mono HU.out.size))).mono ?_)); rintro e w8 ⟨rfl, hb4⟩; have HB3 := bl_step hb4 (by first | (with_reducible exact HB3) | (with_reducible exact HB3.drew)); obtain ⟨a0, a1, a2, a3, b0, b1, b2, b3, -⟩ := S8.keep hv0 hv1 HS.out HB3)
        | (go_at_call 10; (first | (with_reducible refine (Hab.out _ (Ht.out.below (HU.out.trans (HB3.mono HU.out.size)))).mono ?_) | (with_reducible refine (Hab.out _ (Ht.out.below (HU.out.trans (HB3.drew.mono HU.out.size)))).mono ?_)); rintro e w8 ⟨rfl, hb4⟩; have HB3 := bl_step hb4 (by first | (with_reducible exact HB3) | (with_reducible exact HB3.drew)); obtain ⟨a0, a1, a2, a3, b0, b1, b2, b3, -⟩ := S8.keep hv0 hv1 HS.out HB3))
    all_goals go_wp2_with fail
    all_goals go_meet
    all_goals (case rel => exact ⟨rfl, rfl, HB3⟩)
  case rest =>
  obtain ⟨rfl, rfl, hbc⟩ := hcut
  obtain ⟨X, hww⟩ : ∃ X, X = wc := ⟨_, rfl⟩
  subst hww
  have HX := Lib.hid hbc
  clear hbc
  go_upto_region 7 with fail
  go_cut [9, 10] from 63 to 70 (fun s9 s10 wc => s9 = .string tG ∧ s10 = .bool q ∧ Below U.heap.size U wc)
  case first =>
    have HB3 := HX.out
    obtain ⟨a0, a1, a2, a3, b0, b1, b2, b3, -⟩ := S8.keep hv0 hv1 HS.out HB3
    go_region_held3 (fun W => W.cell? ⟨w.heap.size, 0, none⟩ = some (.int .i64 s) ∧ W.cell? ⟨w.heap.size, 1, none⟩ = some (.slice ao n c) ∧ W.cell? ⟨w.heap.size, 2, none⟩ = some (.int .i64 s') ∧ W.cell? ⟨w.heap.size, 3, none⟩ = some (.slice ao' n' c') ∧ W.cell? ⟨w.heap.size + 1, 0, none⟩ = some (.int .i64 t) ∧ W.cell? ⟨w.heap.size + 1, 1, none⟩ = some (.slice bo k d) ∧ W.cell? ⟨w.heap.size + 1, 2, none⟩ = some (.int .i64 t') ∧ W.cell? ⟨w.heap.size + 1, 3, none⟩ = some (.slice bo' k' d') ∧ Below U.heap.size U W)
      (first | exact S8.keep hv0 hv1 HS.out HB3 | exact S8.keep hv0 hv1 HS.out HB3.drew)
      (first
        | (go_at_call 11; (first | (with_reducible refine (Hta.out _ (HU.out.trans (HB3.mono HU.out.size))).mono ?_) | (with_reducible refine (Hta.out _ (HU.out.trans (HB3.drew.mono HU.out.size))).mono ?_) | (with_reducible refine (Htb.out _ (HU.out.trans (HB3.mono HU.out.size))).mono ?_) | (with_reducible refine (Htb.out _ (HU.out.trans (HB3.drew.mono HU.out.size))).mono ?_)); rintro e w8 ⟨rfl, hb4⟩; have HB3 := bl_step hb4 (by first | (with_reducible exact HB3) | (with_reducible exact HB3.drew)); obtain ⟨a0, a1, a2, a3, b0, b1, b2, b3, -⟩ := S8.keep hv0 hv1 HS.out HB3)
        | (go_at_call 10; (first | (with_reducible refine (Hba.out _ (Ht.out.below (HU.out.trans (HB3.mono HU.out.size)))).mono ?_) | (with_reducible refine (Hba.out _ (Ht.out.below (HU.out.trans (HB3.drew.mono HU.out.size)))).mono ?_)); rintro e w8 ⟨rfl, hb4⟩; have HB3 := bl_step hb4 (by first | (with_reducible exact HB3) | (with_reducible exact HB3.drew)); obtain ⟨a0, a1, a2, a3, b0, b1, b2, b3, -⟩ := S8.keep hv0 hv1 HS.out HB3))
    all_goals go_wp2_with fail
    all_goals go_meet
    all_goals (case rel => exact ⟨rfl, rfl, HB3⟩)
  case rest =>
  obtain ⟨rfl, rfl, hbc⟩ := hcut
  have HW : Hid (Below w.heap.size w wc) := HU.out.trans (hbc.mono HU.out.size)
  have HC := Lib.hid hbc
  clear hbc Hab Hba Hta Htb Hbd
  cases q with
  | false =>
    go_wp2_with fail
    refine (works_ok _ (Ht.out.below HW.out)).mono ?_
    rintro e w9 ⟨rfl, hb9⟩
    go_wp2
    go_ret
    exact ⟨rfl, HW.out.trans (hb9.mono HW.out.size)⟩
  | true =>
    obtain ⟨a, c₁, hra, hla, hlc⟩ := Hrd.out rfl
    have Hlv := Lib.hid (implLevels tG a c₁ l1 l2 hra hla.mem hlc.mem Hl1.out Hl2.out)
    rw [hla.sens, hlc.sens] at Hlv
    clear hra hla hlc Hrd
    go_wp2_with fail
    refine (Hlv.out _).mono ?_
    rintro e w9 ⟨v, u, rfl, ⟨hv, hu, -, -⟩, hb9⟩
    obtain ⟨av', cv', rfl, hv1', -⟩ := hv
    obtain ⟨au', cu', rfl, hu1', -⟩ := hu
    have HC : Hid (Below U.heap.size U w9) := bl_step hb9 HC.out
    have HW : Hid (Below w.heap.size w w9) := HW.out.trans (hb9.mono HW.out.size)
    have Hv := Lib.hid hv1'
    have Hu := Lib.hid hu1'
    clear hv1' hu1' hb9 Hlv
    go_upto_region 11 with fail
    have h2 := Two.new (s := m0) (s' := m1) (cv := cv') (cu := cu') (Below.refl w9.heap.size w9) Hv.out Hu.out
    generalize ((w9.alloc (.cells #[.int .i64 m0, .slice av' l1.length cv'] 34)).alloc (.cells #[.int .i64 m1, .slice au' l2.length cu'] 34)) = Y at *
    have HY : Hid (Below U.heap.size U Y) := bl_step h2.below HC.out
    have HW : Hid (Below w.heap.size w Y) := HW.out.trans (h2.below.mono HW.out.size)
    have hr9 : Y.heap[w7.heap.size]? = some (.cells #[.int .i64 m0, .slice av l1.length cv, .int .i64 m1, .slice au l2.length cu] 26 (0, 0)) := (HY.out.block _ (Array.getElem?_eq_some_iff.1 Hrow.out).1).trans Hrow.out
    have Hr9 := Lib.hid hr9
    have x0 := row_cell (l := [.int .i64 m0, .slice av l1.length cv, .int .i64 m1, .slice au l2.length cu]) hr9 (j := 0) rfl
    have x1 := row_cell (l := [.int .i64 m0, .slice av l1.length cv, .int .i64 m1, .slice au l2.length cu]) hr9 (j := 1) rfl
    have y0 := h2.c0
    have y1 := h2.c1
    have H2 := Lib.hid h2
    have hll := (Array.getElem?_eq_some_iff.1 hr9).1
    clear h2 hr9
    go_wp2_with fail
    refine (level_same m0 av' l1 cv' av cv _ H2.out.v (Hav.out.below HY.out) Hl1.out).mono ?_
    rintro e w10 ⟨rfl, hb10⟩
    have HB10 := Lib.hid hb10
    clear x0 x1 y0 y1
    have x0 := (hb10.cell (p := ⟨w7.heap.size, 2, none⟩) hll).trans (row_cell (l := [.int .i64 m0, .slice av l1.length cv, .int .i64 m1, .slice au l2.length cu]) Hr9.out (j := 2) rfl)
    have x1 := (hb10.cell (p := ⟨w7.heap.size, 3, none⟩) hll).trans (row_cell (l := [.int .i64 m0, .slice av l1.length cv, .int .i64 m1, .slice au l2.length cu]) Hr9.out (j := 3) rfl)
    have y0 := (hb10.cell (p := ⟨w9.heap.size + 1, 0, none⟩) H2.out.lt').trans H2.out.d0
    have y1 := (hb10.cell (p := ⟨w9.heap.size + 1, 1, none⟩) H2.out.lt').trans H2.out.d1
    clear hb10
    go_wp2_with fail
    refine (level_same m1 au' l2 cu' au cu _ (H2.out.u.below HB10.out) ((Hau.out.below HY.out).below HB10.out) Hl2.out).mono ?_
    rintro e w11 ⟨rfl, hb11⟩
    have HW : Hid (Below w.heap.size w w11) := HW.out.trans ((HB10.out.trans (hb11.mono HB10.out.size)).mono HW.out.size)
    clear hb11
    go_wp2_with fail
    refine (works_ok _ (Ht.out.below HW.out)).mono ?_
    rintro e w12 ⟨rfl, hb12⟩
    go_wp2
    go_ret
    exact ⟨rfl, HW.out.trans (hb12.mono HW.out.size)⟩
end Go.Proofs.YtaloidnoeafgiaaGreatDoor
