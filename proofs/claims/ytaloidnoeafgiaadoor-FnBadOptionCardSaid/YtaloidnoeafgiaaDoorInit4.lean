/- spec.Init: the labels behind options. -/
import Derived.Test.YtaloidnoeafgiaaDoorInit3
import Derived.Deep.RegionHeld3
namespace Go.Proofs.YtaloidnoeafgiaaDoor
open Go.RowKit Go.Lib

/-- a label's cells -/
abbrev labCs (x : Lab) : List Value := [.string x.u, .string x.r, .string x.t, .string x.l]

/-- block b is a label -/
def LabAt (w : World) (b : Nat) (x : Lab) : Prop := w.heap[b]? = some (.cells (labCs x).toArray 41 (0, 0))

theorem LabAt.set {w : World} {b : Nat} {x : Lab} (h : LabAt w b x) (j : Nat) (v : ByteArray) (y : Lab) (hy : labCs y = (labCs x).set j (.string v)) : LabAt (w.setCell ⟨b, j, none⟩ (.string v)) b y := by
  unfold LabAt at *
  rw [heap_setCell_same _ _ _ _ _ _ h, hy]
  simp

theorem LabAt.other {w : World} {b : Nat} {x : Lab} (h : LabAt w b x) {a : Addr} (ha : b ≠ a.block) (v : Value) : LabAt (w.setCell a v) b x := by
  unfold LabAt at *
  rw [Below.heap_setCell _ _ _ _ ha]; exact h

theorem LabAt.alloc {w : World} {b : Nat} {x : Lab} (h : LabAt w b x) (o : Obj) : LabAt (w.alloc o) b x := by
  unfold LabAt at *
  rw [Below.heap_alloc _ _ _ (Array.getElem?_eq_some_iff.1 h).1]; exact h

theorem LabAt.lt {w : World} {b : Nat} {x : Lab} (h : LabAt w b x) : b < w.heap.size := (Array.getElem?_eq_some_iff.1 h).1

theorem LabAt.below {w w' : World} {b : Nat} {x : Lab} (h : LabAt w b x) (hb : Below w.heap.size w w') : LabAt w' b x := (hb.block b h.lt).trans h

set_option maxRecDepth 100000 in
set_option maxHeartbeats 8000000 in
theorem specInit_ok (ao : Option Addr) (os : List (ByteArray × ByteArray)) (c : Nat) (hok : ∀ o ∈ os, OptOk o) (hn : os.length ≤ 1000) (pr : ByteArray) (p m : Lab) (hp : p.Small) (hm : m.Small) (w : World) (h : OptsAt w ao os) :
    Calls Tryd.prog 34 #[.slice ao os.length c, labV p.u p.r p.t p.l, labV m.u m.r m.t m.l, .string pr] w fun e w' => ∃ a b : ByteArray, e = .returned (.tuple #[.string a, .string b]) ∧ Hid (InitOut os p m pr a b) ∧ Below w.heap.size w w' := by
  obtain ⟨n, hnn⟩ : ∃ n, n = os.length := ⟨_, rfl⟩
  have HN : Hid (n = os.length) := hnn
  have H := Lib.hid h
  have HO : Hid (∀ j, j < n → OptOk (os.getD j (kD, kD))) := by
    intro j hj
    have h3 : j < os.length := by omega
    have e : os.getD j (kD, kD) = os[j] := by simp [List.getD, List.getElem?_eq_getElem h3]
    rw [e]; exact hok _ (List.getElem_mem h3)
  have HP := Lib.hid hp
  have HM := Lib.hid hm
  have hn2 : n ≤ 1000 := by omega
  have L5 : LabAt (w.alloc (.cells (labCs p).toArray 41)) w.heap.size p := heap_alloc_new _ _
  have L6 : LabAt ((w.alloc (.cells (labCs p).toArray 41)).alloc (.cells (labCs m).toArray 41)) (w.heap.size + 1) m := by
    have := heap_alloc_new (w.alloc (.cells (labCs p).toArray 41)) (.cells (labCs m).toArray 41)
    unfold LabAt
    simpa using this
  have H5 : Hid (LabAt ((w.alloc (.cells (labCs p).toArray 41)).alloc (.cells (labCs m).toArray 41)) w.heap.size p) := L5.alloc _
  have H6 := Lib.hid L6
  have HB0 : Hid (Below w.heap.size w ((w.alloc (.cells (labCs p).toArray 41)).alloc (.cells (labCs m).toArray 41))) := ((Below.refl _ _).alloc (Nat.le_refl _) _).alloc (by simp) _
  rw [← hnn]
  clear L5 L6 hok hn hp hm h hnn
  go_enter Tryd.func34, Tryd.ntmps34
  go_wp2_with fail
  go_loopg [14] n (fun mc iv wr => ∃ (i : Nat) (pi mi : Lab), iv = .int .i64 i ∧ Hid (mc + i = n) ∧ i ≤ n ∧ Hid (initRun os p m = initRun (os.drop i) pi mi) ∧ Hid (pi.Small ∧ mi.Small) ∧ Hid (LabAt wr w.heap.size pi) ∧ Hid (LabAt wr (w.heap.size + 1) mi) ∧ Hid (Below w.heap.size w wr))
  case atStart => exact ⟨0, p, m, rfl, rfl, Nat.zero_le _, rfl, ⟨HP.out, HM.out⟩, H5, H6, HB0⟩
  case round =>
    obtain ⟨i, pi, mi, rfl, hmc, hi, hrun, hsm, h5, h6, hbel⟩ := hrel
    clear H5 H6 HB0 HP HM
    by_cases hin : i < n
    · have hlt : decide ((i : Int) < (n : Int)) = true := decide_eq_true (by omega)
      have i0 : (0 : Int) ≤ (i : Int) := by omega
      have i1 : (i : Int) < (n : Int) := by omega
      obtain ⟨x, rfl, hx, c0, c1⟩ := (H.out.below hbel.out) i (by have := HN.out; omega)
      have hrun2 := hrun.out.trans (run_drop os i (by have := HN.out; omega) pi mi)
      have hoi := HO.out i hin
      obtain ⟨⟨k, wd⟩, ho⟩ : ∃ o, o = os.getD i (kD, kD) := ⟨_, rfl⟩
      rw [← ho] at c0 c1 hrun2 hoi
      clear ho
      simp only at c0 c1 hrun2 hoi
      have g5 : LabAt (wr.alloc (.cells #[.string k, .string wd] 44)) w.heap.size pi := h5.out.alloc _
      have g6 : LabAt (wr.alloc (.cells #[.string k, .string wd] 44)) (w.heap.size + 1) mi := h6.out.alloc _
      have d50 := row_cell (l := labCs pi) g5 (j := 0) rfl
      have d51 := row_cell (l := labCs pi) g5 (j := 1) rfl
      have d52 := row_cell (l := labCs pi) g5 (j := 2) rfl
      have d53 := row_cell (l := labCs pi) g5 (j := 3) rfl
      have d60 := row_cell (l := labCs mi) g6 (j := 0) rfl
      have d62 := row_cell (l := labCs mi) g6 (j := 2) rfl
      have d63 := row_cell (l := labCs mi) g6 (j := 3) rfl
      have f50 := row_free (l := labCs pi) g5 0
      have f51 := row_free (l := labCs pi) g5 1
      have f52 := row_free (l := labCs pi) g5 2
      have f53 := row_free (l := labCs pi) g5 3
      have f60 := row_free (l := labCs mi) g6 0
      have f62 := row_free (l := labCs mi) g6 2
      have f63 := row_free (l := labCs mi) g6 3
      have G5 := Lib.hid g5
      have G6 := Lib.hid g6
      have Gb : Hid (Below w.heap.size w (wr.alloc (.cells #[.string k, .string wd] 44))) := hbel.out.alloc hbel.out.size _
      clear g5 g6 h5 h6
      by_cases hd : k = kD
      · subst hd
        have Hout : Hid (InitOut os p m pr ⟨#[]⟩ pr) := Or.inr ⟨by rw [hrun2, if_pos rfl], rfl, rfl⟩
        clear hrun2 hoi
        go_wp2_with fail
        go_ret2
        exact ⟨_, _, rfl, Hout.out, Gb.out⟩
      · rw [if_neg hd] at hrun2
        obtain ⟨hk, hwd⟩ : Kind k ∧ wd.size ≤ 1000 := by
          rcases hoi with h | h
          · exact absurd h hd
          · exact h
        have Hrun := Lib.hid hrun2
        have Hwd := Lib.hid hwd
        clear hrun2 hoi hd hwd
        rcases hk with rfl | rfl | rfl | rfl | rfl
        · go_wp2_with fail
          go_region
          go_wp2_with fail
          go_roundg (gk - 1)
          case measure => have := hmc.out; omega
          case rel =>
            have := hmc.out
            refine ⟨i + 1, _, _, by go_num, show _ = _ by omega, by omega, Hrun.out, ⟨small_P hsm.out.1 _ _ Hwd.out, small_M hsm.out.2 _ _ Hwd.out⟩, ?_, ?_, ((Gb.out.setCell (Nat.le_refl _) _).setCell (Nat.le_succ _) _).drew⟩
            · rw [stepP_L]; exact (G5.out.set 3 wd { pi with l := wd } rfl).other (by show w.heap.size ≠ w.heap.size + 1; omega) _
            · rw [stepM_L]; exact (G6.out.other (by show w.heap.size + 1 ≠ w.heap.size; omega) _).set 3 wd { mi with l := wd } rfl
        · go_wp2_with fail
          go_roundg (gk - 1)
          case measure => have := hmc.out; omega
          case rel =>
            have := hmc.out
            refine ⟨i + 1, _, _, by go_num, show _ = _ by omega, by omega, Hrun.out, ⟨small_P hsm.out.1 _ _ Hwd.out, small_M hsm.out.2 _ _ Hwd.out⟩, ?_, ?_, Gb.out.setCell (Nat.le_refl _) _⟩
            · rw [stepP_R]; exact G5.out.set 1 wd { pi with r := wd } rfl
            · rw [stepM_R]; exact G6.out.other (by show w.heap.size + 1 ≠ w.heap.size; omega) _
        · go_wp2_with fail
          go_roundg (gk - 1)
          case measure => have := hmc.out; omega
          case rel =>
            have := hmc.out
            refine ⟨i + 1, _, _, by go_num, show _ = _ by omega, by omega, Hrun.out, ⟨small_P hsm.out.1 _ _ Hwd.out, small_M hsm.out.2 _ _ Hwd.out⟩, ?_, ?_, Gb.out.setCell (Nat.le_refl _) _⟩
            · rw [stepP_T]; exact G5.out.set 2 wd { pi with t := wd } rfl
            · rw [stepM_T]; exact G6.out.other (by show w.heap.size + 1 ≠ w.heap.size; omega) _
        · go_wp2_with fail
          go_roundg (gk - 1)
          case measure => have := hmc.out; omega
          case rel =>
            have := hmc.out
            refine ⟨i + 1, _, _, by go_num, show _ = _ by omega, by omega, Hrun.out, ⟨small_P hsm.out.1 _ _ Hwd.out, small_M hsm.out.2 _ _ Hwd.out⟩, ?_, ?_, Gb.out.setCell (Nat.le_succ _) _⟩
            · rw [stepP_F]; exact G5.out.other (by show w.heap.size ≠ w.heap.size + 1; omega) _
            · rw [stepM_F]; exact G6.out.set 2 wd { mi with t := wd } rfl
        · go_wp2_with fail
          go_region
          go_wp2_with fail
          go_roundg (gk - 1)
          case measure => have := hmc.out; omega
          case rel =>
            have := hmc.out
            refine ⟨i + 1, _, _, by go_num, show _ = _ by omega, by omega, Hrun.out, ⟨small_P hsm.out.1 _ _ Hwd.out, small_M hsm.out.2 _ _ Hwd.out⟩, ?_, ?_, ((Gb.out.setCell (Nat.le_refl _) _).setCell (Nat.le_succ _) _).drew⟩
            · rw [stepP_U]; exact (G5.out.set 0 wd { pi with u := wd } rfl).other (by show w.heap.size ≠ w.heap.size + 1; omega) _
            · rw [stepM_U]; exact (G6.out.other (by show w.heap.size + 1 ≠ w.heap.size; omega) _).set 0 wd { mi with u := wd } rfl
    · obtain rfl : i = n := by omega
      have hlt : decide ((i : Int) < (i : Int)) = false := by simp
      have Hrun : Hid (initRun os p m = some (pi, mi)) := by
        show _ = _
        rw [hrun.out, List.drop_eq_nil_of_le (by have := HN.out; omega)]; rfl
      have HG := Lib.hid (fun W => label_text pi.u pi.r pi.t pi.l hsm.out.1.sized W)
      have HG2 := Lib.hid (fun W => label_text mi.u mi.r mi.t mi.l hsm.out.2.sized W)
      have d50 := row_cell (l := labCs pi) h5.out (j := 0) rfl
      have d51 := row_cell (l := labCs pi) h5.out (j := 1) rfl
      have d52 := row_cell (l := labCs pi) h5.out (j := 2) rfl
      have d53 := row_cell (l := labCs pi) h5.out (j := 3) rfl
      have d60 := row_cell (l := labCs mi) h6.out (j := 0) rfl
      have d61 := row_cell (l := labCs mi) h6.out (j := 1) rfl
      have d62 := row_cell (l := labCs mi) h6.out (j := 2) rfl
      have d63 := row_cell (l := labCs mi) h6.out (j := 3) rfl
      have l5 := h5.out.lt
      have l6 := h6.out.lt
      clear hrun h5 h6
      have od50 := d50
      have od51 := d51
      have od52 := d52
      have od53 := d53
      have od60 := d60
      have od61 := d61
      have od62 := d62
      have od63 := d63
      go_wp2_with fail
      go_region_held3 (fun W => W.cell? ⟨w.heap.size, 0, none⟩ = some (.string pi.u) ∧ W.cell? ⟨w.heap.size, 1, none⟩ = some (.string pi.r) ∧ W.cell? ⟨w.heap.size, 2, none⟩ = some (.string pi.t) ∧ W.cell? ⟨w.heap.size, 3, none⟩ = some (.string pi.l) ∧ W.cell? ⟨w.heap.size + 1, 0, none⟩ = some (.string mi.u) ∧ W.cell? ⟨w.heap.size + 1, 1, none⟩ = some (.string mi.r) ∧ W.cell? ⟨w.heap.size + 1, 2, none⟩ = some (.string mi.t) ∧ W.cell? ⟨w.heap.size + 1, 3, none⟩ = some (.string mi.l) ∧ Below wr.heap.size wr W)
        (first | exact ⟨d50, d51, d52, d53, d60, d61, d62, d63, HB3⟩ | exact ⟨d50, d51, d52, d53, d60, d61, d62, d63, (Below.refl _ wr).drew⟩)
        (first | (go_at_call 31; with_reducible refine (HG.out _).mono ?_; rintro e w4 ⟨s1, rfl, hs1, hb4⟩; have HB3 : Below wr.heap.size wr w4 := (by first | exact HB3.trans (hb4.mono HB3.size) | exact ((Below.refl _ wr).drew).trans (hb4.mono (Nat.le_refl _))); have d50 := (HB3.cell (p := ⟨w.heap.size, 0, none⟩) l5).trans od50; have d51 := (HB3.cell (p := ⟨w.heap.size, 1, none⟩) l5).trans od51; have d52 := (HB3.cell (p := ⟨w.heap.size, 2, none⟩) l5).trans od52; have d53 := (HB3.cell (p := ⟨w.heap.size, 3, none⟩) l5).trans od53; have d60 := (HB3.cell (p := ⟨w.heap.size + 1, 0, none⟩) l6).trans od60; have d61 := (HB3.cell (p := ⟨w.heap.size + 1, 1, none⟩) l6).trans od61; have d62 := (HB3.cell (p := ⟨w.heap.size + 1, 2, none⟩) l6).trans od62; have d63 := (HB3.cell (p := ⟨w.heap.size + 1, 3, none⟩) l6).trans od63) | (go_at_call 31; with_reducible refine (HG2.out _).mono ?_; rintro e w5 ⟨s2, rfl, hs2, hb4⟩; have HB3 : Below wr.heap.size wr w5 := (by first | exact HB3.trans (hb4.mono HB3.size) | exact ((Below.refl _ wr).drew).trans (hb4.mono (Nat.le_refl _))); have d50 := (HB3.cell (p := ⟨w.heap.size, 0, none⟩) l5).trans od50; have d51 := (HB3.cell (p := ⟨w.heap.size, 1, none⟩) l5).trans od51; have d52 := (HB3.cell (p := ⟨w.heap.size, 2, none⟩) l5).trans od52; have d53 := (HB3.cell (p := ⟨w.heap.size, 3, none⟩) l5).trans od53; have d60 := (HB3.cell (p := ⟨w.heap.size + 1, 0, none⟩) l6).trans od60; have d61 := (HB3.cell (p := ⟨w.heap.size + 1, 1, none⟩) l6).trans od61; have d62 := (HB3.cell (p := ⟨w.heap.size + 1, 2, none⟩) l6).trans od62; have d63 := (HB3.cell (p := ⟨w.heap.size + 1, 3, none⟩) l6).trans od63))
      all_goals go_wp2_with fail
      all_goals go_ret2
      all_goals exact ⟨s1, s2, rfl, Or.inl ⟨pi, mi, Hrun.out, hs1.out, hs2.out⟩, hbel.out.trans (HB3.mono hbel.out.size)⟩
end Go.Proofs.YtaloidnoeafgiaaDoor
