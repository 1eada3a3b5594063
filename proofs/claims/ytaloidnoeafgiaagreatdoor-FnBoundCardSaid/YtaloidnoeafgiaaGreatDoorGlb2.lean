/- calculateGlbLub and impl.Bound: what two ranges have in common. -/
import Derived.Test.YtaloidnoeafgiaaGreatDoorGlb
import Derived.Deep.CutRange
namespace Go.Proofs.YtaloidnoeafgiaaGreatDoor
open Go.RowKit Go.Lib

theorem max_int (m n : Nat) : max (m : Int) (n : Int) = ((max m n : Nat) : Int) := by omega
theorem min_int (m n : Nat) : min (m : Int) (n : Int) = ((min m n : Nat) : Int) := by omega

set_option maxRecDepth 100000 in
set_option maxHeartbeats 8000000 in
theorem glb_ok (s t : ByteArray) (a c a' c' : Lvd) (l k l' k' : List Nat) (hr : ReadsAs s a c) (ht : ReadsAs t a' c') (ha : Mem a l) (hc : Mem c k) (ha' : Mem a' l') (hc' : Mem c' k') (z1 : a.sens ≤ 9999) (z2 : c.sens ≤ 9999) (z3 : a'.sens ≤ 9999) (z4 : c'.sens ≤ 9999)
    (h1 : ¬ c.sens < a'.sens) (h2 : ¬ c'.sens < a.sens) (w : World) (hT : Tabs w) :
    Calls Tryz.prog 44 #[.string s, .string t] w fun e w' => ∃ r : ByteArray, e = .returned (.tuple #[.string r, .nilIface]) ∧ RgOut r (both (max a.sens a'.sens) a a') (both (min c.sens c'.sens) c c') (comL l l') (comL k k') ∧ Below w.heap.size w w' := by
  have Hr := Lib.hid hr
  have Ht := Lib.hid ht
  have HT := Lib.hid hT
  have Ma := Lib.hid (mem_both (max a.sens a'.sens) ha ha')
  have Mc := Lib.hid (mem_both (min c.sens c'.sens) hc hc')
  have d1 : decide ((c.sens : Int) < (a'.sens : Int)) = false := by simp; omega
  have d1n : decide (c.sens < a'.sens) = false := decide_eq_false h1
  have d2n : decide (c'.sens < a.sens) = false := decide_eq_false h2
  have d2 : decide ((c'.sens : Int) < (a.sens : Int)) = false := by simp; omega
  have Z1 : Hid (max a.sens a'.sens ≤ 9999) := (show _ ≤ _ by omega)
  have Z2 : Hid (min c.sens c'.sens ≤ 9999) := (show _ ≤ _ by omega)
  clear hr ht hT ha hc ha' hc' h1 h2 z1 z2 z3 z4
  go_enter Tryz.func44, Tryz.ntmps44
  go_wp2_with fail
  refine (Hr.out _).mono ?_
  rintro e w2 ⟨rb, rfl, hg, hb2⟩
  obtain ⟨lb, hb, hg⟩ := Rg.of hg
  have HG := Lib.hid hg
  have HB := Lib.hid hb2
  clear hg hb2
  go_wp2_with fail
  refine (Ht.out _).mono ?_
  rintro e w3 ⟨rb', rfl, hg', hb3⟩
  obtain ⟨lb', hb', hg'⟩ := Rg.of hg'
  have HG := Lib.hid (HG.out.below hb3)
  have HG' := Lib.hid hg'
  have HB : Hid (Below w.heap.size w w3) := HB.out.trans (hb3.mono HB.out.size)
  have c0 := HG.out.c0
  have c1 := HG.out.c1
  have p1 := HG.out.p1
  have q1 := HG.out.q1
  have c0' := HG'.out.c0
  have c1' := HG'.out.c1
  have p1' := HG'.out.p1
  have q1' := HG'.out.q1
  clear hg' hb3
  go_upto_region 7 with fail
  go_cut [57] from 26 to 57 (fun s57 wc => s57 = .bool false ∧ Below w3.heap.size w3 wc)
  case first =>
    go_quiet (fail)
    go_wp2_with fail
    go_meet
    case rel => exact ⟨rfl, below_drewN (Below.refl _ _) _⟩
  case rest =>
  obtain ⟨rfl, hbc⟩ := hcut
  obtain ⟨V, hV⟩ : ∃ V, V = wc := ⟨_, rfl⟩
  subst hV
  have HG := Lib.hid (HG.out.below hbc)
  have HG' := Lib.hid (HG'.out.below hbc)
  have HB : Hid (Below w.heap.size w V) := HB.out.trans (hbc.mono HB.out.size)
  clear hbc c0 c1 p1 q1 c0' c1' p1' q1' d1 d2 d1n d2n
  go_upto_region 10 with fail
  have hgl := Gl.new V
  generalize (((V.alloc (.cells #[.pointer none, .int .i64 0] 86)).alloc (.cells #[.pointer none, .int .i64 0] 86)).alloc (.cells #[.pointer (some ⟨V.heap.size, 0, none⟩), .pointer (some ⟨V.heap.size + 1, 0, none⟩)] 92)) = W1 at *
  have hg1 := HG.out.below hgl.below
  have hg1' := HG'.out.below hgl.below
  have c0 := hg1.c0
  have p1 := hg1.p1
  have c0' := hg1'.c0
  have p1' := hg1'.p1
  have r0 := row_cell (l := [.pointer none, .int .i64 0]) hgl.r0 (j := 1) rfl
  have f0 := row_free (l := [.pointer none, .int .i64 0]) hgl.r0 1
  have r2 := row_cell (l := [.pointer (some ⟨V.heap.size, 0, none⟩), .pointer (some ⟨V.heap.size + 1, 0, none⟩)]) hgl.r2 (j := 0) rfl
  have Hgl := Lib.hid hgl
  clear hg1 hg1' hgl
  go_cut [9] from 65 to 85 (fun s9 wc => s9 = .pointer (some ⟨V.heap.size + 1 + 1, 0, none⟩) ∧ Gl V wc (max a.sens a'.sens) 0)
  case first =>
    go_still_tail 21, (by kernel_rfl)
    go_wp2_with fail
    go_meet
    case rel => exact ⟨rfl, by first | exact (Hgl.out.set0 _).drew | exact Hgl.out.drew.set0 _ | (rw [max_int]; first | exact (Hgl.out.set0 _).drew | exact Hgl.out.drew.set0 _)⟩
  case rest =>
  obtain ⟨rfl, hgl⟩ := hcut
  obtain ⟨W2, hww⟩ : ∃ X, X = wc := ⟨_, rfl⟩
  subst hww
  clear c0 p1 c0' p1' r0 f0 r2 Hgl
  have hg1 := HG.out.below hgl.below
  have hg1' := HG'.out.below hgl.below
  have c1 := hg1.c1
  have q1 := hg1.q1
  have c1' := hg1'.c1
  have q1' := hg1'.q1
  have r1 := row_cell (l := [.pointer none, .int .i64 0]) hgl.r1 (j := 1) rfl
  have f1 := row_free (l := [.pointer none, .int .i64 0]) hgl.r1 1
  have r2 := row_cell (l := [.pointer (some ⟨V.heap.size, 0, none⟩), .pointer (some ⟨V.heap.size + 1, 0, none⟩)]) hgl.r2 (j := 1) rfl
  have Hgl := Lib.hid hgl
  clear hg1 hg1' hgl
  go_upto_region 11 with fail
  go_cut [9] from 86 to 106 (fun s9 wc => s9 = .pointer (some ⟨V.heap.size + 1 + 1, 0, none⟩) ∧ Gl V wc (max a.sens a'.sens) (min c.sens c'.sens))
  case first =>
    go_still_tail 21, (by kernel_rfl)
    go_wp2_with fail
    go_meet
    case rel => exact ⟨rfl, by first | exact (Hgl.out.set1 _).drew | exact Hgl.out.drew.set1 _ | (rw [min_int]; first | exact (Hgl.out.set1 _).drew | exact Hgl.out.drew.set1 _)⟩
  case rest =>
  obtain ⟨rfl, hgl⟩ := hcut
  obtain ⟨W3, hww⟩ : ∃ X, X = wc := ⟨_, rfl⟩
  subst hww
  clear c1 q1 c1' q1' r1 f1 r2 Hgl
  have hg1 := HG.out.below hgl.below
  have hg1' := HG'.out.below hgl.below
  have hlt1 := Nat.lt_of_lt_of_le HG.out.lt hgl.below.size
  have hlt1' := Nat.lt_of_lt_of_le HG'.out.lt hgl.below.size
  have hnW : V.heap.size < W3.heap.size := (Array.getElem?_eq_some_iff.1 hgl.r0).1
  have hlb : lb < V.heap.size := LvAt.lt HG.out.low
  have hlb' : lb' < V.heap.size := LvAt.lt HG'.out.low
  go_upto_region 12 with fail
  go_cut [124] from 107 to 124 (fun sx wc => sx = .bool (a.has && a'.has) ∧ wc = W3)
  case first =>
    have c0 := hg1.c0
    have c0' := hg1'.c0
    rcases lv_cats hg1.low with ⟨e1, e2, e3⟩ | ⟨e1, b, B, ws, e2, e3, e4⟩
    · clear HG HG' hg1 hg1'
      go_wp2_with fail
      go_meet
      case rel => exact ⟨by rw [e1]; rfl, rfl⟩
    · rcases lv_cats hg1'.low with ⟨g1, g2, g3⟩ | ⟨g1, b', B', ws', g2, g3, g4⟩
      · clear HG HG' hg1 hg1' e3
        go_wp2_with fail
        go_meet
        case rel => exact ⟨by rw [e1, g1]; rfl, rfl⟩
      · clear HG HG' hg1 hg1' e3 g3
        go_wp2_with fail
        go_meet
        case rel => exact ⟨by rw [e1, g1]; rfl, rfl⟩
  case rest =>
  obtain ⟨rfl, hww⟩ := hcut
  subst hww
  obtain ⟨W3, hww⟩ : ∃ X, X = wc := ⟨_, rfl⟩
  subst hww
  go_upto_if 124 with fail
  go_cut [9] from 107 to 153 (fun s9 wc => s9 = .pointer (some ⟨V.heap.size + 1 + 1, 0, none⟩) ∧ BelowX W3.heap.size (V.heap.size) W3 wc ∧ LvAt' wc (V.heap.size) (both (max a.sens a'.sens) a a'))
  case first =>
    rcases lv_cats hg1.low with ⟨e1, e2, e3⟩ | ⟨e1, b, B, ws, e2, e3, e4⟩
    · have hh : (a.has && a'.has) = false := by rw [e1]; rfl
      rw [hh]
      go_wp2_with fail
      go_meet
      case rel => exact ⟨rfl, BelowX.refl _ _ _, Or.inl ⟨hh, hgl.r0, fun x hx => e3 x hx.1⟩⟩
    rcases lv_cats hg1'.low with ⟨g1, g2, g3⟩ | ⟨g1, b', B', ws', g2, g3, g4⟩
    · have hh : (a.has && a'.has) = false := by rw [e1, g1]; rfl
      rw [hh]
      go_wp2_with fail
      go_meet
      case rel => exact ⟨rfl, BelowX.refl _ _ _, Or.inl ⟨hh, hgl.r0, fun x hx => g3 x hx.2⟩⟩
    have hh : (a.has && a'.has) = true := by rw [e1, g1]; rfl
    rw [hh]
    have x2 := row_cell (l := [.pointer (some ⟨V.heap.size, 0, none⟩), .pointer (some ⟨V.heap.size + 1, 0, none⟩)]) hgl.r2 (j := 0) rfl
    have x0 := row_cell (l := [.pointer none, .int .i64 ((max a.sens a'.sens : Nat) : Int)]) hgl.r0 (j := 0) rfl
    have xf := row_free (l := [.pointer none, .int .i64 ((max a.sens a'.sens : Nat) : Int)]) hgl.r0 0
    have y0 := hg1.c0
    have y0' := hg1'.c0
    go_upto_region 14 with fail
    have hrow0 := heap_setCell_same W3 (V.heap.size) 0 _ _ (.pointer (some ⟨W3.heap.size, 0, none⟩)) hgl.r0
    have hrow2 : ((W3.setCell ⟨V.heap.size, 0, none⟩ (.pointer (some ⟨W3.heap.size, 0, none⟩))).alloc (.cells #[.bool false, .slice none 0 0] 99)).heap[V.heap.size]? = some (.cells #[.pointer (some ⟨W3.heap.size, 0, none⟩), .int .i64 ((max a.sens a'.sens : Nat) : Int)] 86 (0, 0)) := by rw [Below.heap_alloc _ _ _ (by rw [setCell_size']; exact hnW)]; exact hrow0
    have hzb : ((W3.setCell ⟨V.heap.size, 0, none⟩ (.pointer (some ⟨W3.heap.size, 0, none⟩))).alloc (.cells #[.bool false, .slice none 0 0] 99)).heap[W3.heap.size]? = some (.cells #[.bool false, .slice none 0 0] 99 (0, 0)) := by
      have h := heap_alloc_new (W3.setCell ⟨V.heap.size, 0, none⟩ (.pointer (some ⟨W3.heap.size, 0, none⟩))) (.cells #[.bool false, .slice none 0 0] 99)
      rw [setCell_size'] at h; exact h
    have hkk : ∀ k, k < W3.heap.size → k ≠ V.heap.size → ((W3.setCell ⟨V.heap.size, 0, none⟩ (.pointer (some ⟨W3.heap.size, 0, none⟩))).alloc (.cells #[.bool false, .slice none 0 0] 99)).heap[k]? = W3.heap[k]? := fun k hk hkn => by
      rw [Below.heap_alloc _ _ _ (by rw [setCell_size']; exact hk), Below.heap_setCell _ _ _ _ hkn]
    have Hand : Hid (∀ (w' : World) (wz : List Nat), BigOwn w' W3.heap.size ((W3.setCell ⟨V.heap.size, 0, none⟩ (.pointer (some ⟨W3.heap.size, 0, none⟩))).alloc (.cells #[.bool false, .slice none 0 0] 99)).heap.size wz → AndOf ws ws' wz → BelowX ((W3.setCell ⟨V.heap.size, 0, none⟩ (.pointer (some ⟨W3.heap.size, 0, none⟩))).alloc (.cells #[.bool false, .slice none 0 0] 99)).heap.size W3.heap.size ((W3.setCell ⟨V.heap.size, 0, none⟩ (.pointer (some ⟨W3.heap.size, 0, none⟩))).alloc (.cells #[.bool false, .slice none 0 0] 99)) w' → LvAt' w' (V.heap.size) (both (max a.sens a'.sens) a a') ∧ BelowX W3.heap.size (V.heap.size) W3 w') := fun w' wz h1 h2 h3 => and_lv hgl.r0 e1 g1 e4 g4 rfl h1 h2 h3
    generalize ((W3.setCell ⟨V.heap.size, 0, none⟩ (.pointer (some ⟨W3.heap.size, 0, none⟩))).alloc (.cells #[.bool false, .slice none 0 0] 99)) = W4 at *
    have hc : ∀ p : Addr, p.block < W3.heap.size → p.block ≠ V.heap.size → W4.cell? p = W3.cell? p := fun p h1 h2 => World.cell?_of_block (w := W3) (hkk p.block h1 h2)
    clear x0 xf hrow0 y0 y0'
    have x2 := (hc ⟨V.heap.size + 1 + 1, 0, none⟩ (Array.getElem?_eq_some_iff.1 hgl.r2).1 (by simp <;> omega)).trans x2
    have x0 := row_cell (l := [.pointer (some ⟨W3.heap.size, 0, none⟩), .int .i64 ((max a.sens a'.sens : Nat) : Int)]) hrow2 (j := 0) rfl
    have y0 := (hc ⟨rb, 0, none⟩ hlt1 (by have := HG.out.lt; simp; omega)).trans hg1.c0
    have y0' := (hc ⟨rb', 0, none⟩ hlt1' (by have := HG'.out.lt; simp; omega)).trans hg1'.c0
    have e2 := (hc ⟨lb, 0, none⟩ (LvAt.lt hg1.low) (by simp; omega)).trans e2
    have g2 := (hc ⟨lb', 0, none⟩ (LvAt.lt hg1'.low) (by simp; omega)).trans g2
    have Hx : Hid (BigOwn W4.drew b B ws) := e3.but (W' := W4.drew) hgl.r0 (by decide) (by decide) hkk
    have Hy : Hid (BigOwn W4.drew b' B' ws') := g3.but (W' := W4.drew) hgl.r0 (by decide) (by decide) hkk
    have Hz : Hid (W4.drew.heap[W3.heap.size]? = some (.cells #[.bool false, .slice none 0 0] 99 (0, 0))) := hzb
    clear hkk hc e3 g3 hrow2 hzb
    go_still_tail 21, (by kernel_rfl)
    go_wp2_with fail
    refine (big_and_any W3.heap.size b B b' B' ws ws' W4.drew Hz.out Hx.out Hy.out).mono ?_
    rintro e w' ⟨wz, rfl, ho, hand, hbx⟩
    have hend := Hand.out w' wz ho hand ⟨hbx.os, hbx.tape, hbx.output, hbx.size, hbx.block⟩
    clear ho hand hbx
    go_wp2_with fail
    go_meet
    case rel => exact ⟨rfl, hend.2, hend.1⟩
  case rest =>
  obtain ⟨rfl, hbx0, hlv0⟩ := hcut
  obtain ⟨W5, hww⟩ : ∃ X, X = wc := ⟨_, rfl⟩
  subst hww
  have r1row : W5.heap[V.heap.size + 1]? = some (.cells #[.pointer none, .int .i64 ((min c.sens c'.sens : Nat) : Int)] 86 (0, 0)) := (hbx0.block _ (Array.getElem?_eq_some_iff.1 hgl.r1).1 (by simp)).trans hgl.r1
  have r2row : W5.heap[V.heap.size + 1 + 1]? = some (.cells #[.pointer (some ⟨V.heap.size, 0, none⟩), .pointer (some ⟨V.heap.size + 1, 0, none⟩)] 92 (0, 0)) := (hbx0.block _ (Array.getElem?_eq_some_iff.1 hgl.r2).1 (by simp; omega)).trans hgl.r2
  have hbV : Below V.heap.size V W5 := hgl.below.trans (hbx0.below (Nat.le_refl _) hgl.below.size)
  clear hg1 hg1' hlt1 hlt1' hnW hlb hlb' hgl hbx0
  have hg1 := HG.out.below hbV
  have hg1' := HG'.out.below hbV
  have hlt1 := Nat.lt_of_lt_of_le HG.out.lt hbV.size
  have hlt1' := Nat.lt_of_lt_of_le HG'.out.lt hbV.size
  have hnW : V.heap.size + 1 < W5.heap.size := (Array.getElem?_eq_some_iff.1 r1row).1
  have hlb : hb < V.heap.size := LvAt.lt HG.out.high
  have hlb' : hb' < V.heap.size := LvAt.lt HG'.out.high
  go_upto_region 15 with fail
  go_cut [171] from 154 to 171 (fun sx wc => sx = .bool (c.has && c'.has) ∧ wc = W5)
  case first =>
    have c0 := hg1.c1
    have c0' := hg1'.c1
    rcases lv_cats hg1.high with ⟨e1, e2, e3⟩ | ⟨e1, b, B, ws, e2, e3, e4⟩
    · clear HG HG' hg1 hg1'
      go_wp2_with fail
      go_meet
      case rel => exact ⟨by rw [e1]; rfl, rfl⟩
    · rcases lv_cats hg1'.high with ⟨g1, g2, g3⟩ | ⟨g1, b', B', ws', g2, g3, g4⟩
      · clear HG HG' hg1 hg1' e3
        go_wp2_with fail
        go_meet
        case rel => exact ⟨by rw [e1, g1]; rfl, rfl⟩
      · clear HG HG' hg1 hg1' e3 g3
        go_wp2_with fail
        go_meet
        case rel => exact ⟨by rw [e1, g1]; rfl, rfl⟩
  case rest =>
  obtain ⟨rfl, hww⟩ := hcut
  subst hww
  obtain ⟨W5, hww⟩ : ∃ X, X = wc := ⟨_, rfl⟩
  subst hww
  go_upto_if 171 with fail
  go_cut [9] from 154 to 200 (fun s9 wc => s9 = .pointer (some ⟨V.heap.size + 1 + 1, 0, none⟩) ∧ BelowX W5.heap.size (V.heap.size + 1) W5 wc ∧ LvAt' wc (V.heap.size + 1) (both (min c.sens c'.sens) c c'))
  case first =>
    rcases lv_cats hg1.high with ⟨e1, e2, e3⟩ | ⟨e1, b, B, ws, e2, e3, e4⟩
    · have hh : (c.has && c'.has) = false := by rw [e1]; rfl
      rw [hh]
      go_wp2_with fail
      go_meet
      case rel => exact ⟨rfl, BelowX.refl _ _ _, Or.inl ⟨hh, r1row, fun x hx => e3 x hx.1⟩⟩
    rcases lv_cats hg1'.high with ⟨g1, g2, g3⟩ | ⟨g1, b', B', ws', g2, g3, g4⟩
    · have hh : (c.has && c'.has) = false := by rw [e1, g1]; rfl
      rw [hh]
      go_wp2_with fail
      go_meet
      case rel => exact ⟨rfl, BelowX.refl _ _ _, Or.inl ⟨hh, r1row, fun x hx => g3 x hx.2⟩⟩
    have hh : (c.has && c'.has) = true := by rw [e1, g1]; rfl
    rw [hh]
    have x2 := row_cell (l := [.pointer (some ⟨V.heap.size, 0, none⟩), .pointer (some ⟨V.heap.size + 1, 0, none⟩)]) r2row (j := 1) rfl
    have x0 := row_cell (l := [.pointer none, .int .i64 ((min c.sens c'.sens : Nat) : Int)]) r1row (j := 0) rfl
    have xf := row_free (l := [.pointer none, .int .i64 ((min c.sens c'.sens : Nat) : Int)]) r1row 0
    have y0 := hg1.c1
    have y0' := hg1'.c1
    go_upto_region 17 with fail
    have hrow0 := heap_setCell_same W5 (V.heap.size + 1) 0 _ _ (.pointer (some ⟨W5.heap.size, 0, none⟩)) r1row
    have hrow2 : ((W5.setCell ⟨V.heap.size + 1, 0, none⟩ (.pointer (some ⟨W5.heap.size, 0, none⟩))).alloc (.cells #[.bool false, .slice none 0 0] 99)).heap[V.heap.size + 1]? = some (.cells #[.pointer (some ⟨W5.heap.size, 0, none⟩), .int .i64 ((min c.sens c'.sens : Nat) : Int)] 86 (0, 0)) := by rw [Below.heap_alloc _ _ _ (by rw [setCell_size']; exact hnW)]; exact hrow0
    have hzb : ((W5.setCell ⟨V.heap.size + 1, 0, none⟩ (.pointer (some ⟨W5.heap.size, 0, none⟩))).alloc (.cells #[.bool false, .slice none 0 0] 99)).heap[W5.heap.size]? = some (.cells #[.bool false, .slice none 0 0] 99 (0, 0)) := by
      have h := heap_alloc_new (W5.setCell ⟨V.heap.size + 1, 0, none⟩ (.pointer (some ⟨W5.heap.size, 0, none⟩))) (.cells #[.bool false, .slice none 0 0] 99)
      rw [setCell_size'] at h; exact h
    have hkk : ∀ k, k < W5.heap.size → k ≠ V.heap.size + 1 → ((W5.setCell ⟨V.heap.size + 1, 0, none⟩ (.pointer (some ⟨W5.heap.size, 0, none⟩))).alloc (.cells #[.bool false, .slice none 0 0] 99)).heap[k]? = W5.heap[k]? := fun k hk hkn => by
      rw [Below.heap_alloc _ _ _ (by rw [setCell_size']; exact hk), Below.heap_setCell _ _ _ _ hkn]
    have Hand : Hid (∀ (w' : World) (wz : List Nat), BigOwn w' W5.heap.size ((W5.setCell ⟨V.heap.size + 1, 0, none⟩ (.pointer (some ⟨W5.heap.size, 0, none⟩))).alloc (.cells #[.bool false, .slice none 0 0] 99)).heap.size wz → AndOf ws ws' wz → BelowX ((W5.setCell ⟨V.heap.size + 1, 0, none⟩ (.pointer (some ⟨W5.heap.size, 0, none⟩))).alloc (.cells #[.bool false, .slice none 0 0] 99)).heap.size W5.heap.size ((W5.setCell ⟨V.heap.size + 1, 0, none⟩ (.pointer (some ⟨W5.heap.size, 0, none⟩))).alloc (.cells #[.bool false, .slice none 0 0] 99)) w' → LvAt' w' (V.heap.size + 1) (both (min c.sens c'.sens) c c') ∧ BelowX W5.heap.size (V.heap.size + 1) W5 w') := fun w' wz h1 h2 h3 => and_lv r1row e1 g1 e4 g4 rfl h1 h2 h3
    generalize ((W5.setCell ⟨V.heap.size + 1, 0, none⟩ (.pointer (some ⟨W5.heap.size, 0, none⟩))).alloc (.cells #[.bool false, .slice none 0 0] 99)) = W4 at *
    have hc : ∀ p : Addr, p.block < W5.heap.size → p.block ≠ V.heap.size + 1 → W4.cell? p = W5.cell? p := fun p h1 h2 => World.cell?_of_block (w := W5) (hkk p.block h1 h2)
    clear x0 xf hrow0 y0 y0'
    have x2 := (hc ⟨V.heap.size + 1 + 1, 1, none⟩ (Array.getElem?_eq_some_iff.1 r2row).1 (by simp <;> omega)).trans x2
    have x0 := row_cell (l := [.pointer (some ⟨W5.heap.size, 0, none⟩), .int .i64 ((min c.sens c'.sens : Nat) : Int)]) hrow2 (j := 0) rfl
    have y0 := (hc ⟨rb, 1, none⟩ hlt1 (by have := HG.out.lt; simp; omega)).trans hg1.c1
    have y0' := (hc ⟨rb', 1, none⟩ hlt1' (by have := HG'.out.lt; simp; omega)).trans hg1'.c1
    have e2 := (hc ⟨hb, 0, none⟩ (LvAt.lt hg1.high) (by simp; omega)).trans e2
    have g2 := (hc ⟨hb', 0, none⟩ (LvAt.lt hg1'.high) (by simp; omega)).trans g2
    have Hx : Hid (BigOwn W4.drew b B ws) := e3.but (W' := W4.drew) r1row (by decide) (by decide) hkk
    have Hy : Hid (BigOwn W4.drew b' B' ws') := g3.but (W' := W4.drew) r1row (by decide) (by decide) hkk
    have Hz : Hid (W4.drew.heap[W5.heap.size]? = some (.cells #[.bool false, .slice none 0 0] 99 (0, 0))) := hzb
    clear hkk hc e3 g3 hrow2 hzb
    go_still_tail 21, (by kernel_rfl)
    go_wp2_with fail
    refine (big_and_any W5.heap.size b B b' B' ws ws' W4.drew Hz.out Hx.out Hy.out).mono ?_
    rintro e w' ⟨wz, rfl, ho, hand, hbx⟩
    have hend := Hand.out w' wz ho hand ⟨hbx.os, hbx.tape, hbx.output, hbx.size, hbx.block⟩
    clear ho hand hbx
    go_wp2_with fail
    go_meet
    case rel => exact ⟨rfl, hend.2, hend.1⟩
  case rest =>
  obtain ⟨rfl, hbx1, hlv1⟩ := hcut
  obtain ⟨W7, hww⟩ : ∃ X, X = wc := ⟨_, rfl⟩
  subst hww
  have r2end : W7.heap[V.heap.size + 1 + 1]? = some (.cells #[.pointer (some ⟨V.heap.size, 0, none⟩), .pointer (some ⟨V.heap.size + 1, 0, none⟩)] 92 (0, 0)) := (hbx1.block _ (Array.getElem?_eq_some_iff.1 r2row).1 (by simp)).trans r2row
  have H0 : Hid (LvAt' W7 V.heap.size (both (max a.sens a'.sens) a a')) := LvAt.butLv hlv0 r1row (by simp) hbx1.block
  have H1 : Hid (LvAt' W7 (V.heap.size + 1) (both (min c.sens c'.sens) c c')) := hlv1
  have HB7 : Hid (Below w.heap.size w W7) := HB.out.trans ((hbV.trans (hbx1.below (Nat.le_succ _) hbV.size)).mono HB.out.size)
  have x0 := row_cell (l := [.pointer (some ⟨V.heap.size, 0, none⟩), .pointer (some ⟨V.heap.size + 1, 0, none⟩)]) r2end (j := 0) rfl
  have x1 := row_cell (l := [.pointer (some ⟨V.heap.size, 0, none⟩), .pointer (some ⟨V.heap.size + 1, 0, none⟩)]) r2end (j := 1) rfl
  clear hg1 hg1' hlt1 hlt1' hnW hlb hlb' hbx1 hlv0 hlv1 r1row r2row r2end hbV
  go_wp2_with fail
  refine (string_any _ _ _ _ _ _ Ma.out Mc.out _ H0.out H1.out (HT.out.below HB7.out) Z1.out Z2.out).mono ?_
  rintro e w8 ⟨r, q, rfl, hq, hrr, hb8⟩
  have HO : Hid (RgOut r (both (max a.sens a'.sens) a a') (both (min c.sens c'.sens) c c') (comL l l') (comL k k')) := ⟨q, hq, hrr⟩
  clear hq hrr
  go_wp2_with fail
  go_ret2
  exact ⟨_, rfl, HO.out, HB7.out.trans (hb8.mono HB7.out.size)⟩
end Go.Proofs.YtaloidnoeafgiaaGreatDoor
