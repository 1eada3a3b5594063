/- the law FnLabel: its walk. -/
import Derived.Test.YtaloidnoeafgiaaGreatDoorLabO
import Derived.Deep.RegionHeld3
namespace Go.Proofs.YtaloidnoeafgiaaGreatDoor
open Go.RowKit Go.Lib

theorem word_pos {s : ByteArray} (h : wordB s = true) : s.size ≠ 0 := by
  unfold wordB at h
  simp only [Bool.and_eq_true, decide_eq_true_eq] at h
  exact h.2.1

theorem lab_pos {x : Lab} (h : labB x.u x.r x.t x.l = true) : x.u.size ≠ 0 ∧ x.r.size ≠ 0 ∧ x.t.size ≠ 0 := by
  unfold labB at h
  simp only [Bool.and_eq_true, decide_eq_true_eq] at h
  exact ⟨word_pos h.2.1, word_pos h.2.2.1, word_pos h.2.2.2.1⟩

set_option maxRecDepth 100000 in
set_option maxHeartbeats 8000000 in
theorem fnLabel_walk (x : Lab) (w : World) (hT : Tabs w) :
    Calls Tryz.prog 5 #[labV x.u x.r x.t x.l] w fun e w' => e = .returned (.bool true) ∧ Below w.heap.size w w' := by
  have hw := Lib.hid (fun w hT => works_ok w hT)
  have Ht := Lib.hid hT
  have L50 : LabAt (w.alloc (.cells (labCs x).toArray 45)) w.heap.size x := heap_alloc_new _ _
  have L5 := Lib.hid L50
  have HB : Hid (Below w.heap.size w (w.alloc (.cells (labCs x).toArray 45))) := (Below.refl _ _).alloc (Nat.le_refl _) _
  clear L50 hT
  have d0 := row_cell (l := labCs x) L5.out (j := 0) rfl
  have d1 := row_cell (l := labCs x) L5.out (j := 1) rfl
  have d2 := row_cell (l := labCs x) L5.out (j := 2) rfl
  have d3 := row_cell (l := labCs x) L5.out (j := 3) rfl
  go_enter Tryz.func5, Tryz.ntmps5
  go_wp2_with fail
  refine (fits3_any x.u x.r x.t x.l _).mono ?_
  rintro e w2 ⟨rfl, hb2⟩
  have L5 := Lib.hid (L5.out.below hb2)
  have HB := Lib.hid (HB.out.trans (hb2.mono HB.out.size))
  have d0 := row_cell (l := labCs x) L5.out (j := 0) rfl
  have d1 := row_cell (l := labCs x) L5.out (j := 1) rfl
  have d2 := row_cell (l := labCs x) L5.out (j := 2) rfl
  have d3 := row_cell (l := labCs x) L5.out (j := 3) rfl
  clear hb2
  by_cases k1 : x.u.size ≤ 2147483647 ∧ x.r.size ≤ 2147483647 ∧ x.t.size ≤ 2147483647 ∧ x.l.size ≤ 2147483647
  · rw [decide_eq_true k1]
    have Hpp := Lib.hid (fun W => label_proper x.u x.r x.t x.l ⟨by omega, by omega, by omega, by omega⟩ W)
    clear k1
    go_wp2_with fail
    refine (Hpp.out _).mono ?_
    rintro e w3 ⟨rfl, hb3⟩
    have L5 := Lib.hid (L5.out.below hb3)
    have HB := Lib.hid (HB.out.trans (hb3.mono HB.out.size))
    have d0 := row_cell (l := labCs x) L5.out (j := 0) rfl
    have d1 := row_cell (l := labCs x) L5.out (j := 1) rfl
    have d2 := row_cell (l := labCs x) L5.out (j := 2) rfl
    have d3 := row_cell (l := labCs x) L5.out (j := 3) rfl
    clear hb3
    cases hp : labB x.u x.r x.t x.l
    · clear hp
      go_wp2_with fail
      refine (hw.out _ (Ht.out.below HB.out)).mono ?_
      rintro e w9 ⟨rfl, hb9⟩
      go_wp2
      go_ret
      exact ⟨rfl, HB.out.trans (hb9.mono HB.out.size)⟩
    · have Hp := Lib.hid (lab_ok hp)
      have Hq := Lib.hid (lab_pos hp)
      clear hp Hpp
      go_wp2_with fail
      refine (label_text x.u x.r x.t x.l Hp.out.small.sized _).mono ?_
      rintro e w4 ⟨s, rfl, hs, hb4⟩
      have L5 := Lib.hid (L5.out.below hb4)
      have HB := Lib.hid (HB.out.trans (hb4.mono HB.out.size))
      have d0 := row_cell (l := labCs x) L5.out (j := 0) rfl
      have d1 := row_cell (l := labCs x) L5.out (j := 1) rfl
      have d2 := row_cell (l := labCs x) L5.out (j := 2) rfl
      have d3 := row_cell (l := labCs x) L5.out (j := 3) rfl
      clear hb4
      go_wp2_with fail
      refine (parse_label s x Hp.out hs.out _).mono ?_
      rintro e w5 ⟨v, rfl, hown5, hb5⟩
      have L5 := Lib.hid (L5.out.below hb5)
      have HB := Lib.hid (HB.out.trans (hb5.mono HB.out.size))
      have d0 := row_cell (l := labCs x) L5.out (j := 0) rfl
      have d1 := row_cell (l := labCs x) L5.out (j := 1) rfl
      have d2 := row_cell (l := labCs x) L5.out (j := 2) rfl
      have d3 := row_cell (l := labCs x) L5.out (j := 3) rfl
      clear hb5
      obtain ⟨n, hn⟩ : ∃ n, n = (labPairs x).length := ⟨_, rfl⟩
      rw [← hn] at hown5
      obtain ⟨g, cg, rfl, _, hpg⟩ := pairsAt_of_own hown5 hn (by rw [hn]; unfold labPairs; split <;> simp)
      have HPG := Lib.hid hpg
      have HNN : Hid (n = (labPairs x).length) := hn
      clear hown5 hpg hn
      by_cases h0 : x.l.size = 0
      · have hL : labPairs x = [(kR, x.r), (kT, x.t), (kU, x.u)] := by unfold labPairs; rw [if_pos h0]; rfl
        have hl0 := size0 h0
        have hlv := (str_nil x.l (List.eq_nil_of_length_eq_zero (by rw [← Lib.size_eq]; exact h0))).1
        obtain rfl : n = 3 := by rw [HNN.out, hL]; rfl
        have HLL := Lib.hid hL
        have H0 := Lib.hid h0
        have g0 : w5.cell? ⟨g, 0, none⟩ = some (.string ((kR, x.r)).1) := by have h := (HPG.out.2 0 (by rw [hL]; simp)).1; rw [hL] at h; exact h
        have g1 : w5.cell? ⟨g, 1, none⟩ = some (.string ((kR, x.r)).2) := by have h := (HPG.out.2 0 (by rw [hL]; simp)).2; rw [hL] at h; exact h
        have g2 : w5.cell? ⟨g, 2, none⟩ = some (.string ((kT, x.t)).1) := by have h := (HPG.out.2 1 (by rw [hL]; simp)).1; rw [hL] at h; exact h
        have g3 : w5.cell? ⟨g, 3, none⟩ = some (.string ((kT, x.t)).2) := by have h := (HPG.out.2 1 (by rw [hL]; simp)).2; rw [hL] at h; exact h
        have g4 : w5.cell? ⟨g, 4, none⟩ = some (.string ((kU, x.u)).1) := by have h := (HPG.out.2 2 (by rw [hL]; simp)).1; rw [hL] at h; exact h
        have g5 : w5.cell? ⟨g, 5, none⟩ = some (.string ((kU, x.u)).2) := by have h := (HPG.out.2 2 (by rw [hL]; simp)).2; rw [hL] at h; exact h
        simp only at g0 g1 g2 g3 g4 g5
        clear hL h0 hl0
        have hl5 := L5.out.lt
        have hg5 := HPG.out.1
        go_wp2_with fail
        refine wp_loop_rounds 4 ?_
        rw [rounds_succ]
        go_wp2_with fail
        go_quiet (fail)
        go_wp2_with fail
        rw [rounds_succ]
        go_wp2_with fail
        go_quiet (fail)
        go_wp2_with fail
        rw [rounds_succ]
        go_wp2_with fail
        go_quiet (fail)
        go_wp2_with fail
        rw [rounds_succ]
        go_wp2_with fail
        refine (label_text x.u x.r x.t x.l Hp.out.small.sized _).mono ?_
        rintro e w6 ⟨s', rfl, hs', hb6⟩
        obtain rfl : s' = s := bytes_ext (hs'.out.trans hs.out.symm)
        have hbx : Below w5.heap.size w5 w6 := (below_drewN ((Below.refl _ w5).alloc (Nat.le_refl _) _) _).trans (hb6.mono (below_drewN ((Below.refl _ w5).alloc (Nat.le_refl _) _) _).size)
        have L5 := Lib.hid (L5.out.below hbx)
        have HB := Lib.hid (HB.out.trans (hbx.mono HB.out.size))
        have HPG := Lib.hid (HPG.out.below hbx)
        clear hbx hb6 hs' g0 g1 g2 g3 g4 g5 d0 d1 d2 d3 hl5 hg5
        go_wp2_with fail
        refine (implOptions s' x Hp.out Hq.out.1 Hq.out.2.1 Hq.out.2.2 hs.out _).mono ?_
        rintro e w7 ⟨v7, rfl, hown7, hb7⟩
        have L5 := Lib.hid (L5.out.below hb7)
        have HB := Lib.hid (HB.out.trans (hb7.mono HB.out.size))
        have HPG := Lib.hid (HPG.out.below hb7)
        have hO : labOpts x = [(⟨#[117, 115, 101, 114, 58]⟩ : ByteArray) ++ x.u, (⟨#[114, 111, 108, 101, 58]⟩ : ByteArray) ++ x.r, (⟨#[116, 121, 112, 101, 58]⟩ : ByteArray) ++ x.t] := by unfold labOpts; rw [if_pos H0.out]; rfl
        rw [hO] at hown7
        obtain ⟨ao7, c7, rfl⟩ := owns_shape' hown7
        obtain ⟨_, g7, rfl, _, hg7, hc7⟩ := own_strs hown7 (by simp)
        have HC7 : Hid (∀ k, k < 3 → w7.cell? ⟨g7, k, none⟩ = some (.string ((labOpts x).getD k ⟨#[]⟩))) := by rw [hO]; exact hc7
        have hl7 := L5.out.lt
        have hw7 := HB.out.size
        have d0 := row_cell (l := labCs x) L5.out (j := 0) rfl
        have d1 := row_cell (l := labCs x) L5.out (j := 1) rfl
        have d2 := row_cell (l := labCs x) L5.out (j := 2) rfl
        have d3 := row_cell (l := labCs x) L5.out (j := 3) rfl
        have su := Hp.out.su
        have sr := Hp.out.sr
        have st := Hp.out.st
        have sl := Hp.out.sl
        have Hg7 := Lib.hid hg7
        clear hb7 hown7 hc7
        have HC8 : Hid (∀ k, k < 3 → (w7.alloc (.cells #[.string ((⟨#[117, 115, 101, 114, 58]⟩ : ByteArray) ++ x.u), .string ((⟨#[114, 111, 108, 101, 58]⟩ : ByteArray) ++ x.r), .string ((⟨#[116, 121, 112, 101, 58]⟩ : ByteArray) ++ x.t)] 9)).cell? ⟨w7.heap.size, k, none⟩ = some (.string ((labOpts x).getD k ⟨#[]⟩))) := by
          rw [hO]
          have h := heap_alloc_new w7 (.cells #[.string ((⟨#[117, 115, 101, 114, 58]⟩ : ByteArray) ++ x.u), .string ((⟨#[114, 111, 108, 101, 58]⟩ : ByteArray) ++ x.r), .string ((⟨#[116, 121, 112, 101, 58]⟩ : ByteArray) ++ x.t)] 9)
          intro k hk
          match k, hk with
          | 0, _ => exact row_cell (l := strsV [(⟨#[117, 115, 101, 114, 58]⟩ : ByteArray) ++ x.u, (⟨#[114, 111, 108, 101, 58]⟩ : ByteArray) ++ x.r, (⟨#[116, 121, 112, 101, 58]⟩ : ByteArray) ++ x.t]) h (j := 0) rfl
          | 1, _ => exact row_cell (l := strsV [(⟨#[117, 115, 101, 114, 58]⟩ : ByteArray) ++ x.u, (⟨#[114, 111, 108, 101, 58]⟩ : ByteArray) ++ x.r, (⟨#[116, 121, 112, 101, 58]⟩ : ByteArray) ++ x.t]) h (j := 1) rfl
          | 2, _ => exact row_cell (l := strsV [(⟨#[117, 115, 101, 114, 58]⟩ : ByteArray) ++ x.u, (⟨#[114, 111, 108, 101, 58]⟩ : ByteArray) ++ x.r, (⟨#[116, 121, 112, 101, 58]⟩ : ByteArray) ++ x.t]) h (j := 2) rfl
        have HB8 : Hid (Below w7.heap.size w7 (w7.alloc (.cells #[.string ((⟨#[117, 115, 101, 114, 58]⟩ : ByteArray) ++ x.u), .string ((⟨#[114, 111, 108, 101, 58]⟩ : ByteArray) ++ x.r), .string ((⟨#[116, 121, 112, 101, 58]⟩ : ByteArray) ++ x.t)] 9))) := (Below.refl _ w7).alloc (Nat.le_refl _) _
        clear hO
        go_wp2_with fail
        go_loopg [100] 3 (fun mc iv wr => ∃ i : Nat, iv = .int .i64 i ∧ Hid (mc + i = 3) ∧ i ≤ 3 ∧ Hid (Below (w7.alloc (.cells #[.string ((⟨#[117, 115, 101, 114, 58]⟩ : ByteArray) ++ x.u), .string ((⟨#[114, 111, 108, 101, 58]⟩ : ByteArray) ++ x.r), .string ((⟨#[116, 121, 112, 101, 58]⟩ : ByteArray) ++ x.t)] 9)).heap.size (w7.alloc (.cells #[.string ((⟨#[117, 115, 101, 114, 58]⟩ : ByteArray) ++ x.u), .string ((⟨#[114, 111, 108, 101, 58]⟩ : ByteArray) ++ x.r), .string ((⟨#[116, 121, 112, 101, 58]⟩ : ByteArray) ++ x.t)] 9)) wr))
        case atStart => exact ⟨0, rfl, rfl, Nat.zero_le _, Below.refl _ _⟩
        case round =>
          obtain ⟨i, rfl, hmc, hin, hbel⟩ := hrel
          have hg8' : w7.heap.size < (w7.alloc (.cells #[.string ((⟨#[117, 115, 101, 114, 58]⟩ : ByteArray) ++ x.u), .string ((⟨#[114, 111, 108, 101, 58]⟩ : ByteArray) ++ x.r), .string ((⟨#[116, 121, 112, 101, 58]⟩ : ByteArray) ++ x.t)] 9)).heap.size := by simp
          have hbs : Below w7.heap.size w7 wr := HB8.out.trans (hbel.out.mono HB8.out.size)
          clear d0 d1 d2 d3
          by_cases hi : i < 3
          · have hlt : decide ((i : Int) < 3) = true := decide_eq_true (by omega)
            have i0' : (0 : Int) ≤ (i : Int) := by omega
            have i1 : (i : Int) < 3 := by omega
            have c0 := (hbs.cell (p := ⟨g7, i, none⟩) Hg7.out).trans (HC7.out i hi)
            have c1 := (hbel.out.cell (p := ⟨w7.heap.size, i, none⟩) hg8').trans (HC8.out i hi)
            obtain ⟨o, ho⟩ : ∃ o, o = (labOpts x).getD i ⟨#[]⟩ := ⟨_, rfl⟩
            rw [← ho] at c0 c1
            clear ho hg8' hbs
            go_wp2_with fail
            go_quiet (fail)
            go_wp2_with fail
            go_roundg (gk - 1)
            case measure => have := hmc.out; omega
            case rel =>
              have e1 := hmc.out
              exact ⟨i + 1, by go_num, show _ = _ by omega, by omega, below_drewN hbel.out _⟩
          · obtain rfl : i = 3 := by omega
            have L5 := Lib.hid (L5.out.below hbs)
            have HB := Lib.hid (HB.out.trans (hbs.mono HB.out.size))
            have HPG := Lib.hid (HPG.out.below hbs)
            have d0 := row_cell (l := labCs x) L5.out (j := 0) rfl
            have d1 := row_cell (l := labCs x) L5.out (j := 1) rfl
            have d2 := row_cell (l := labCs x) L5.out (j := 2) rfl
            have d3 := row_cell (l := labCs x) L5.out (j := 3) rfl
            have lw := L5.out.lt
            have HT := Lib.hid (fun W => (label_text x.u x.r x.t x.l Hp.out.small.sized W).mono (R' := fun e w' => e = .returned (.string s') ∧ Below W.heap.size W w') (by rintro e w' ⟨s1, rfl, h1, hb⟩; obtain rfl : s1 = s' := bytes_ext (h1.out.trans hs.out.symm); exact ⟨rfl, hb⟩))
            have HG := Lib.hid (fun c W h => (implGet_any g c x Hp.out.small W h).mono (R' := fun e w' => e = .returned (.string s') ∧ Below W.heap.size W w') (by rintro e w' ⟨s1, rfl, h1, hb⟩; obtain rfl : s1 = s' := bytes_ext (h1.out.trans hs.out.symm); exact ⟨rfl, hb⟩))
            rw [show (labPairs x).length = 3 by rw [HLL.out]; rfl] at HG
            have HW := Lib.hid (fun W (h : Below wr.heap.size wr W) => hw.out W (Ht.out.below (HB.out.trans (h.mono HB.out.size))))
            have HP := Lib.hid (fun W (h : Below wr.heap.size wr W) => HPG.out.below h)
            have HBr : Hid (Below wr.heap.size wr wr) := Below.refl _ _
            clear HLL hs
            go_wp2_with fail
            have o0 := d0
            have o1 := d1
            have o2 := d2
            have o3 := d3
            go_region_held3 (fun W => W.cell? ⟨w.heap.size, 0, none⟩ = some (.string x.u) ∧ W.cell? ⟨w.heap.size, 1, none⟩ = some (.string x.r) ∧ W.cell? ⟨w.heap.size, 2, none⟩ = some (.string x.t) ∧ W.cell? ⟨w.heap.size, 3, none⟩ = some (.string x.l) ∧ Below wr.heap.size wr W)
              (first | exact ⟨d0, d1, d2, d3, HB3⟩ | exact ⟨d0, d1, d2, d3, (Below.refl _ wr).drew⟩)
              (first | (go_at_call 20; with_reducible refine (HG.out _ _ (HP.out _ (by first | with_reducible exact HB3 | exact (Below.refl _ wr).drew))).mono ?_; rintro e w11 ⟨rfl, hb4⟩; have HB3 : Below wr.heap.size wr w11 := (by first | exact HB3.trans (hb4.mono HB3.size) | exact ((Below.refl _ wr).drew).trans (hb4.mono (Nat.le_refl _))); have d0 := (HB3.cell (p := ⟨w.heap.size, 0, none⟩) lw).trans o0; have d1 := (HB3.cell (p := ⟨w.heap.size, 1, none⟩) lw).trans o1; have d2 := (HB3.cell (p := ⟨w.heap.size, 2, none⟩) lw).trans o2; have d3 := (HB3.cell (p := ⟨w.heap.size, 3, none⟩) lw).trans o3) | (go_at_call 18; with_reducible refine (HT.out _).mono ?_; rintro e w12 ⟨rfl, hb4⟩; have HB3 : Below wr.heap.size wr w12 := (by first | exact HB3.trans (hb4.mono HB3.size) | exact ((Below.refl _ wr).drew).trans (hb4.mono (Nat.le_refl _))); have d0 := (HB3.cell (p := ⟨w.heap.size, 0, none⟩) lw).trans o0; have d1 := (HB3.cell (p := ⟨w.heap.size, 1, none⟩) lw).trans o1; have d2 := (HB3.cell (p := ⟨w.heap.size, 2, none⟩) lw).trans o2; have d3 := (HB3.cell (p := ⟨w.heap.size, 3, none⟩) lw).trans o3) | (go_at_call 8; with_reducible refine (HW.out _ (by first | with_reducible exact HB3 | exact (Below.refl _ wr).drew)).mono ?_; rintro e w13 ⟨rfl, hb4⟩; have HB3 : Below wr.heap.size wr w13 := (by first | exact HB3.trans (hb4.mono HB3.size) | exact ((Below.refl _ wr).drew).trans (hb4.mono (Nat.le_refl _))); have d0 := (HB3.cell (p := ⟨w.heap.size, 0, none⟩) lw).trans o0; have d1 := (HB3.cell (p := ⟨w.heap.size, 1, none⟩) lw).trans o1; have d2 := (HB3.cell (p := ⟨w.heap.size, 2, none⟩) lw).trans o2; have d3 := (HB3.cell (p := ⟨w.heap.size, 3, none⟩) lw).trans o3))
            all_goals go_wp2_with fail
            all_goals go_ret
            all_goals exact ⟨rfl, HB.out.trans (HB3.mono HB.out.size)⟩
      · have hL : labPairs x = [(kL, x.l), (kR, x.r), (kT, x.t), (kU, x.u)] := by unfold labPairs; rw [if_neg h0]; rfl
        have hlv := (str_some x.l (fun e => h0 (by rw [Lib.size_eq, e]; rfl))).1
        obtain rfl : n = 4 := by rw [HNN.out, hL]; rfl
        have HLL := Lib.hid hL
        have H0 := Lib.hid h0
        have g0 : w5.cell? ⟨g, 0, none⟩ = some (.string ((kL, x.l)).1) := by have h := (HPG.out.2 0 (by rw [hL]; simp)).1; rw [hL] at h; exact h
        have g1 : w5.cell? ⟨g, 1, none⟩ = some (.string ((kL, x.l)).2) := by have h := (HPG.out.2 0 (by rw [hL]; simp)).2; rw [hL] at h; exact h
        have g2 : w5.cell? ⟨g, 2, none⟩ = some (.string ((kR, x.r)).1) := by have h := (HPG.out.2 1 (by rw [hL]; simp)).1; rw [hL] at h; exact h
        have g3 : w5.cell? ⟨g, 3, none⟩ = some (.string ((kR, x.r)).2) := by have h := (HPG.out.2 1 (by rw [hL]; simp)).2; rw [hL] at h; exact h
        have g4 : w5.cell? ⟨g, 4, none⟩ = some (.string ((kT, x.t)).1) := by have h := (HPG.out.2 2 (by rw [hL]; simp)).1; rw [hL] at h; exact h
        have g5 : w5.cell? ⟨g, 5, none⟩ = some (.string ((kT, x.t)).2) := by have h := (HPG.out.2 2 (by rw [hL]; simp)).2; rw [hL] at h; exact h
        have g6 : w5.cell? ⟨g, 6, none⟩ = some (.string ((kU, x.u)).1) := by have h := (HPG.out.2 3 (by rw [hL]; simp)).1; rw [hL] at h; exact h
        have g7 : w5.cell? ⟨g, 7, none⟩ = some (.string ((kU, x.u)).2) := by have h := (HPG.out.2 3 (by rw [hL]; simp)).2; rw [hL] at h; exact h
        simp only at g0 g1 g2 g3 g4 g5 g6 g7
        clear hL h0
        have hl5 := L5.out.lt
        have hg5 := HPG.out.1
        go_wp2_with fail
        refine wp_loop_rounds 5 ?_
        rw [rounds_succ]
        go_wp2_with fail
        go_quiet (fail)
        go_wp2_with fail
        rw [rounds_succ]
        go_wp2_with fail
        go_quiet (fail)
        go_wp2_with fail
        rw [rounds_succ]
        go_wp2_with fail
        go_quiet (fail)
        go_wp2_with fail
        rw [rounds_succ]
        go_wp2_with fail
        go_quiet (fail)
        go_wp2_with fail
        rw [rounds_succ]
        go_wp2_with fail
        refine (label_text x.u x.r x.t x.l Hp.out.small.sized _).mono ?_
        rintro e w6 ⟨s', rfl, hs', hb6⟩
        obtain rfl : s' = s := bytes_ext (hs'.out.trans hs.out.symm)
        have hbx : Below w5.heap.size w5 w6 := (below_drewN ((Below.refl _ w5).alloc (Nat.le_refl _) _) _).trans (hb6.mono (below_drewN ((Below.refl _ w5).alloc (Nat.le_refl _) _) _).size)
        have L5 := Lib.hid (L5.out.below hbx)
        have HB := Lib.hid (HB.out.trans (hbx.mono HB.out.size))
        have HPG := Lib.hid (HPG.out.below hbx)
        clear hbx hb6 hs' g0 g1 g2 g3 g4 g5 g6 g7 d0 d1 d2 d3 hl5 hg5
        go_wp2_with fail
        refine (implOptions s' x Hp.out Hq.out.1 Hq.out.2.1 Hq.out.2.2 hs.out _).mono ?_
        rintro e w7 ⟨v7, rfl, hown7, hb7⟩
        have L5 := Lib.hid (L5.out.below hb7)
        have HB := Lib.hid (HB.out.trans (hb7.mono HB.out.size))
        have HPG := Lib.hid (HPG.out.below hb7)
        have hO : labOpts x = [(⟨#[117, 115, 101, 114, 58]⟩ : ByteArray) ++ x.u, (⟨#[114, 111, 108, 101, 58]⟩ : ByteArray) ++ x.r, (⟨#[116, 121, 112, 101, 58]⟩ : ByteArray) ++ x.t, (⟨#[108, 101, 118, 101, 108, 58]⟩ : ByteArray) ++ x.l] := by unfold labOpts; rw [if_neg H0.out]; rfl
        rw [hO] at hown7
        obtain ⟨ao7, c7, rfl⟩ := owns_shape' hown7
        obtain ⟨_, g7, rfl, _, hg7, hc7⟩ := own_strs hown7 (by simp)
        have HC7 : Hid (∀ k, k < 4 → w7.cell? ⟨g7, k, none⟩ = some (.string ((labOpts x).getD k ⟨#[]⟩))) := by rw [hO]; exact hc7
        have hl7 := L5.out.lt
        have hw7 := HB.out.size
        have d0 := row_cell (l := labCs x) L5.out (j := 0) rfl
        have d1 := row_cell (l := labCs x) L5.out (j := 1) rfl
        have d2 := row_cell (l := labCs x) L5.out (j := 2) rfl
        have d3 := row_cell (l := labCs x) L5.out (j := 3) rfl
        have su := Hp.out.su
        have sr := Hp.out.sr
        have st := Hp.out.st
        have sl := Hp.out.sl
        have Hg7 := Lib.hid hg7
        clear hb7 hown7 hc7
        obtain ⟨i0, hi, hz0, hz1, hz2⟩ := info_parts info9
        have hown := own_new w7 9 w7.heap.size (strsV [(⟨#[117, 115, 101, 114, 58]⟩ : ByteArray) ++ x.u, (⟨#[114, 111, 108, 101, 58]⟩ : ByteArray) ++ x.r, (⟨#[116, 121, 112, 101, 58]⟩ : ByteArray) ++ x.t]) (Nat.le_refl _) (by simp [strsV])
        go_wp2_with (at_builtin; refine wpList_append_own _ rfl (.tmp 83) (.tmp 87) 49 rfl w7.heap.size 9 i0 (.string ⟨#[]⟩) 1 16 Tryz.underlying49 hi hz0 hz1 hz2 rfl (by decide) _ _ _ rfl (hown.alloc _) ⟨w7.heap.size + 1, 0, none⟩ 1 1 [.string ((⟨#[108, 101, 118, 101, 108, 58]⟩ : ByteArray) ++ x.l)] rfl rfl (fun j u hj => by have h := cell_one_new (w7.alloc (.cells #[.string ((⟨#[117, 115, 101, 114, 58]⟩ : ByteArray) ++ x.u), .string ((⟨#[114, 111, 108, 101, 58]⟩ : ByteArray) ++ x.r), .string ((⟨#[116, 121, 112, 101, 58]⟩ : ByteArray) ++ x.t)] 9)) (.string ((⟨#[108, 101, 118, 101, 108, 58]⟩ : ByteArray) ++ x.l)) 9 j u hj; simpa using h) (one_str _) (by simp [strsV, maxLen]) (by simp [strsV]) (by simp; omega) ?_; intro v' w8 hown8 hgrow8 _; have hown8 : w8.ownsRow w7.heap.size 9 1 v' ([(⟨#[117, 115, 101, 114, 58]⟩ : ByteArray) ++ x.u, (⟨#[114, 111, 108, 101, 58]⟩ : ByteArray) ++ x.r, (⟨#[116, 121, 112, 101, 58]⟩ : ByteArray) ++ x.t, (⟨#[108, 101, 118, 101, 108, 58]⟩ : ByteArray) ++ x.l] : List ByteArray).length (strsV [(⟨#[117, 115, 101, 114, 58]⟩ : ByteArray) ++ x.u, (⟨#[114, 111, 108, 101, 58]⟩ : ByteArray) ++ x.r, (⟨#[116, 121, 112, 101, 58]⟩ : ByteArray) ++ x.t, (⟨#[108, 101, 118, 101, 108, 58]⟩ : ByteArray) ++ x.l]) := hown8; obtain ⟨ao8, c8, rfl⟩ := owns_shape' hown8; obtain ⟨_, g8, rfl, _, hg8, hc8⟩ := own_strs hown8 (by simp); have HC8 : Hid (∀ k, k < 4 → w8.cell? ⟨g8, k, none⟩ = some (.string ((labOpts x).getD k ⟨#[]⟩))) := (by rw [hO]; exact hc8); have HB8 : Hid (Below w7.heap.size w7 w8) := ((((Below.refl _ w7).alloc (Nat.le_refl _) _).alloc (by simp) _).grown hgrow8 (by simp; omega) (fun k hk => own_block_ge hown k hk)); clear hown8 hgrow8 hc8)
        go_loopg [100] 4 (fun mc iv wr => ∃ i : Nat, iv = .int .i64 i ∧ Hid (mc + i = 4) ∧ i ≤ 4 ∧ Hid (Below w8.heap.size w8 wr))
        case atStart => exact ⟨0, rfl, rfl, Nat.zero_le _, Below.refl _ _⟩
        case round =>
          obtain ⟨i, rfl, hmc, hin, hbel⟩ := hrel
          have hg8' : g8 < w8.heap.size := hg8
          have hbs : Below w7.heap.size w7 wr := HB8.out.trans (hbel.out.mono HB8.out.size)
          clear d0 d1 d2 d3
          by_cases hi : i < 4
          · have hlt : decide ((i : Int) < 4) = true := decide_eq_true (by omega)
            have i0' : (0 : Int) ≤ (i : Int) := by omega
            have i1 : (i : Int) < 4 := by omega
            have c0 := (hbs.cell (p := ⟨g7, i, none⟩) Hg7.out).trans (HC7.out i hi)
            have c1 := (hbel.out.cell (p := ⟨g8, i, none⟩) hg8').trans (HC8.out i hi)
            obtain ⟨o, ho⟩ : ∃ o, o = (labOpts x).getD i ⟨#[]⟩ := ⟨_, rfl⟩
            rw [← ho] at c0 c1
            clear ho hg8' hbs
            go_wp2_with fail
            go_quiet (fail)
            go_wp2_with fail
            go_roundg (gk - 1)
            case measure => have := hmc.out; omega
            case rel =>
              have e1 := hmc.out
              exact ⟨i + 1, by go_num, show _ = _ by omega, by omega, below_drewN hbel.out _⟩
          · obtain rfl : i = 4 := by omega
            have L5 := Lib.hid (L5.out.below hbs)
            have HB := Lib.hid (HB.out.trans (hbs.mono HB.out.size))
            have HPG := Lib.hid (HPG.out.below hbs)
            have d0 := row_cell (l := labCs x) L5.out (j := 0) rfl
            have d1 := row_cell (l := labCs x) L5.out (j := 1) rfl
            have d2 := row_cell (l := labCs x) L5.out (j := 2) rfl
            have d3 := row_cell (l := labCs x) L5.out (j := 3) rfl
            have lw := L5.out.lt
            have HT := Lib.hid (fun W => (label_text x.u x.r x.t x.l Hp.out.small.sized W).mono (R' := fun e w' => e = .returned (.string s') ∧ Below W.heap.size W w') (by rintro e w' ⟨s1, rfl, h1, hb⟩; obtain rfl : s1 = s' := bytes_ext (h1.out.trans hs.out.symm); exact ⟨rfl, hb⟩))
            have HG := Lib.hid (fun c W h => (implGet_any g c x Hp.out.small W h).mono (R' := fun e w' => e = .returned (.string s') ∧ Below W.heap.size W w') (by rintro e w' ⟨s1, rfl, h1, hb⟩; obtain rfl : s1 = s' := bytes_ext (h1.out.trans hs.out.symm); exact ⟨rfl, hb⟩))
            rw [show (labPairs x).length = 4 by rw [HLL.out]; rfl] at HG
            have HW := Lib.hid (fun W (h : Below wr.heap.size wr W) => hw.out W (Ht.out.below (HB.out.trans (h.mono HB.out.size))))
            have HP := Lib.hid (fun W (h : Below wr.heap.size wr W) => HPG.out.below h)
            have HBr : Hid (Below wr.heap.size wr wr) := Below.refl _ _
            clear HLL hs
            go_wp2_with fail
            have o0 := d0
            have o1 := d1
            have o2 := d2
            have o3 := d3
            go_region_held3 (fun W => W.cell? ⟨w.heap.size, 0, none⟩ = some (.string x.u) ∧ W.cell? ⟨w.heap.size, 1, none⟩ = some (.string x.r) ∧ W.cell? ⟨w.heap.size, 2, none⟩ = some (.string x.t) ∧ W.cell? ⟨w.heap.size, 3, none⟩ = some (.string x.l) ∧ Below wr.heap.size wr W)
              (first | exact ⟨d0, d1, d2, d3, HB3⟩ | exact ⟨d0, d1, d2, d3, (Below.refl _ wr).drew⟩)
              (first | (go_at_call 20; with_reducible refine (HG.out _ _ (HP.out _ (by first | with_reducible exact HB3 | exact (Below.refl _ wr).drew))).mono ?_; rintro e w11 ⟨rfl, hb4⟩; have HB3 : Below wr.heap.size wr w11 := (by first | exact HB3.trans (hb4.mono HB3.size) | exact ((Below.refl _ wr).drew).trans (hb4.mono (Nat.le_refl _))); have d0 := (HB3.cell (p := ⟨w.heap.size, 0, none⟩) lw).trans o0; have d1 := (HB3.cell (p := ⟨w.heap.size, 1, none⟩) lw).trans o1; have d2 := (HB3.cell (p := ⟨w.heap.size, 2, none⟩) lw).trans o2; have d3 := (HB3.cell (p := ⟨w.heap.size, 3, none⟩) lw).trans o3) | (go_at_call 18; with_reducible refine (HT.out _).mono ?_; rintro e w12 ⟨rfl, hb4⟩; have HB3 : Below wr.heap.size wr w12 := (by first | exact HB3.trans (hb4.mono HB3.size) | exact ((Below.refl _ wr).drew).trans (hb4.mono (Nat.le_refl _))); have d0 := (HB3.cell (p := ⟨w.heap.size, 0, none⟩) lw).trans o0; have d1 := (HB3.cell (p := ⟨w.heap.size, 1, none⟩) lw).trans o1; have d2 := (HB3.cell (p := ⟨w.heap.size, 2, none⟩) lw).trans o2; have d3 := (HB3.cell (p := ⟨w.heap.size, 3, none⟩) lw).trans o3) | (go_at_call 8; with_reducible refine (HW.out _ (by first | with_reducible exact HB3 | exact (Below.refl _ wr).drew)).mono ?_; rintro e w13 ⟨rfl, hb4⟩; have HB3 : Below wr.heap.size wr w13 := (by first | exact HB3.trans (hb4.mono HB3.size) | exact ((Below.refl _ wr).drew).trans (hb4.mono (Nat.le_refl _))); have d0 := (HB3.cell (p := ⟨w.heap.size, 0, none⟩) lw).trans o0; have d1 := (HB3.cell (p := ⟨w.heap.size, 1, none⟩) lw).trans o1; have d2 := (HB3.cell (p := ⟨w.heap.size, 2, none⟩) lw).trans o2; have d3 := (HB3.cell (p := ⟨w.heap.size, 3, none⟩) lw).trans o3))
            all_goals go_wp2_with fail
            all_goals go_ret
            all_goals exact ⟨rfl, HB.out.trans (HB3.mono HB.out.size)⟩
  · rw [decide_eq_false k1]
    clear k1
    go_wp2_with fail
    go_ret
    exact ⟨rfl, HB.out⟩
end Go.Proofs.YtaloidnoeafgiaaGreatDoor
