/- impl.Spec at a proper specification: what ParsePortSpec answers with, copied. -/
import Derived.Test.YtdmggcbbfljciaaGreatDoorPubB
import Derived.Test.YtdmggcbbfljciaaGreatDoorMaps
import Derived.Test.YtdmggcbbfljciaaGreatDoorNBack
import Derived.Laws.ResultCell
import Derived.Deep.RegionLaw
namespace Go.Proofs.YtdmggcbbfljciaaGreatDoor
open Go.RowKit Go.Lib

set_option maxRecDepth 100000 in
set_option maxHeartbeats 4000000 in
theorem mapping_any (x y z : ByteArray) (w : World) :
    Calls Tryz.prog 27 #[.agg #[.string x, .string y, .string z]] w fun e w' => e = .returned (.agg #[.string x, .string y, .string z]) ∧ Below w.heap.size w w' := by
  have HV : Hid (Below w.heap.size w ((w.alloc (.cells #[.string x, .string y, .string z] 67)).alloc (.cells #[.string ⟨#[]⟩, .string ⟨#[]⟩, .string ⟨#[]⟩] 42))) := ((Below.refl _ _).alloc (Nat.le_refl _) _).alloc (by simp) _
  go_enter Tryz.func27, Tryz.ntmps27
  go_wp2_with fail
  (try simp only [Exit.inBlock, Exit.then])
  have r1 : ((w.alloc (.cells #[.string x, .string y, .string z] 67)).alloc (.cells #[.string x, .string y, .string z] 42)).heap[w.heap.size + 1]? = some (.cells #[.string x, .string y, .string z] 42 (0, 0)) := by
    have h := heap_alloc_new (w.alloc (.cells #[.string x, .string y, .string z] 67)) (.cells #[.string x, .string y, .string z] 42)
    simpa using h
  refine bodyPost_ret (v := .agg #[.string x, .string y, .string z]) ?_ rfl ⟨rfl, ((Below.refl _ _).alloc (Nat.le_refl _) _).alloc (by simp) _⟩
  exact results_cell_row rfl _ _ (w.heap.size + 1) _ _ _ _ rfl r1 Tryz.underlying42 rfl (by kernel_rfl)

theorem own_cells3 {wr w6 : World} {b : Nat} {ob : Obj} {row : Option Nat} (h : wr.heap[b]? = some ob) (hg : wr.grownBy w6 row) (hr : ∀ k, row = some k → b < k) : w6.heap[b]? = some ob := by
  have hlt := (Array.getElem?_eq_some_iff.1 h).1
  exact (hg.block b hlt (fun e => Nat.lt_irrefl _ (hr b e.symm))).trans h

theorem own_lower3 {w : World} {B B' e sz n : Nat} {v : Value} {xs : List Value} (h : w.ownsRow B e sz v n xs) (hB : B' ≤ B) : w.ownsRow B' e sz v n xs := by
  refine ⟨h.1, ?_⟩
  rcases h.2 with h' | ⟨g, cap, cur, h1, h2, h3⟩
  · exact Or.inl h'
  · exact Or.inr ⟨g, cap, cur, h1, by omega, h3⟩

theorem info42 : (Tryz.prog.info? 42).map (fun i => (i.zero, i.size, i.bytes)) = some (some (.agg #[.string ⟨#[]⟩, .string ⟨#[]⟩, .string ⟨#[]⟩]), 3, 48) := by kernel_rfl

theorem m3_setCell {w : World} {g b o : Nat} {v : Value} {l : List M3} (h : M3At w g l) (hb : b < g) : M3At (w.setCell ⟨b, o, none⟩ v) g l := by
  have k : ∀ j, (w.setCell ⟨b, o, none⟩ v).cell? ⟨g, j, none⟩ = w.cell? ⟨g, j, none⟩ := fun j => World.cell?_of_block (w := w) (Below.heap_setCell _ _ _ _ (by first | exact Nat.ne_of_gt hb | exact Nat.ne_of_lt hb))
  intro j hj
  obtain ⟨h0, h1, h2⟩ := h j hj
  exact ⟨(k _).trans h0, (k _).trans h1, (k _).trans h2⟩

/-- what the loop's region reads in a world X that comes from wr -/
def Q3 (w : World) (n : Nat) (v : Value) (i b : Nat) (x y z : ByteArray) (l : List Value) (B : Nat) (wr X : World) : Prop :=
  X.cell? ⟨n, 0, none⟩ = some v ∧ X.frozen? ⟨n, 0, none⟩ = false ∧ X.cell? ⟨b, 0, none⟩ = some (.string x) ∧ X.cell? ⟨b, 1, none⟩ = some (.string y) ∧ X.cell? ⟨b, 2, none⟩ = some (.string z) ∧ X.heap[n]? = some (.cells #[v] 28 (0, 0)) ∧ X.ownsRow B 42 3 v i l ∧ Below wr.heap.size wr X

theorem Q3.keep {w : World} {n : Nat} {v : Value} {i b : Nat} {x y z : ByteArray} {l : List Value} {B : Nat} {wr X Y : World} (h : Q3 w n v i b x y z l B wr X) (hb : Below X.heap.size X Y) (hn : n < X.heap.size) (hb2 : b < X.heap.size) : Q3 w n v i b x y z l B wr Y := by
  obtain ⟨q0, q1, q2, q3, q4, q5, q6, q7⟩ := h
  have r := (hb.block n hn).trans q5
  exact ⟨row_cell (l := [v]) r (j := 0) rfl, row_free (l := [v]) r 0, (hb.cell (p := ⟨b, 0, none⟩) hb2).trans q2, (hb.cell (p := ⟨b, 1, none⟩) hb2).trans q3, (hb.cell (p := ⟨b, 2, none⟩) hb2).trans q4, r, own_below3 q6 hb, q7.trans (hb.mono q7.size)⟩

theorem below_alloc1 (W : World) (o : Obj) : Below W.heap.size W (W.alloc o) := (Below.refl _ _).alloc (Nat.le_refl _) _
theorem below_alloc1d (W : World) (o : Obj) : Below W.heap.size W (W.drew.alloc o) := (Below.refl _ _).drew.alloc (Nat.le_refl _) _
theorem below_heap_alloc (W : World) (o : Obj) {k : Nat} (h : k < W.heap.size) : (W.alloc o).heap[k]? = W.heap[k]? := Below.heap_alloc _ _ _ h

set_option maxRecDepth 100000 in
set_option maxHeartbeats 16000000 in
theorem implSpec_ok (p : Pub) (hp : p.Ok) (w : World) (hT : Tabs w)
    (hip : p.ip ≠ [] → ∀ W, Calls Tryz.prog 45 #[.string (tx p.ip)] W fun e w' => e = .returned (.bool true) ∧ Below W.heap.size W w')
    (hsh : sixL p.ip → ∀ W, Calls Tryz.prog 44 #[.string (tx (91 :: p.ip ++ [93]) ++ ⟨#[58]⟩)] W fun e w' => e = .returned (.tuple #[.string (tx p.ip), .string ⟨#[]⟩, .nilIface]) ∧ Below W.heap.size W w') :
    Calls Tryz.prog 10 #[.string (tx p.text)] w fun e w' => ∃ g c : Nat, e = .returned (.tuple #[.slice (some ⟨g, 0, none⟩) p.ms.length c, .bool true]) ∧ w.heap.size ≤ g ∧ M3At w' g p.ms ∧ Below w.heap.size w w' := by
  have Hb0 : Hid (Below w.heap.size w ((w.alloc (.cells #[.slice none 0 0] 28)).alloc (.cells #[.bool false] 4))) := ((Below.refl _ _).alloc (Nat.le_refl _) _).alloc (by simp) _
  have Hr := Lib.hid (fun W hW => portSpec_ok p hp W hW hip hsh)
  have Ht := Lib.hid hT
  have hmf : ∀ (fn : Fn) (first cap : Array Value) (w : World), (Instr.makeFunc fn first cap).run Tryz.prog w = .ok (.func fn first cap) w := fun _ _ _ _ => rfl
  obtain ⟨i0, hi, hz0, hz1, hz2⟩ := info_parts info42
  have hL1 : 1 ≤ p.ms.length := by rw [p.ms_len]; omega
  have hL2 : p.ms.length ≤ 201 := by rw [p.ms_len]; have := hp.n; omega
  have HmsT : Hid (∀ i, i < p.ms.length → p.ms.take (i + 1) = p.ms.take i ++ [p.ms.getD i ([], [], [])]) := by
    intro i hi'
    rw [List.take_succ_eq_append_getElem hi']
    simp [List.getD, List.getElem?_eq_getElem hi']
  clear hT hp hip hsh
  go_enter_defers Tryz.func10, Tryz.ntmps10
  go_wp2_with fail
  refine (Hr.out _ (Ht.out.below Hb0.out)).mono ?_
  rintro e w2 ⟨g, c, rfl, hg, hm3, hb2⟩
  have q0 : w2.heap[w.heap.size]? = some (.cells #[.slice none 0 0] 28 (0, 0)) := by
    rw [hb2.block w.heap.size (by simp; omega), Below.heap_alloc _ _ _ (by simp)]; exact heap_alloc_new _ _
  have q1 : w2.heap[w.heap.size + 1]? = some (.cells #[.bool false] 4 (0, 0)) := by
    rw [hb2.block (w.heap.size + 1) (by simp)]
    have h := heap_alloc_new (w.alloc (.cells #[.slice none 0 0] 28)) (.cells #[.bool false] 4)
    simpa using h
  have Hb2 : Hid (Below w.heap.size w w2) := Hb0.out.trans (hb2.mono (by simp; omega))
  have hg2 : w.heap.size + 2 ≤ g := by simpa using hg
  have Q0 := Lib.hid q0
  have Q1 := Lib.hid q1
  have l0 := (Array.getElem?_eq_some_iff.1 q0).1
  have l1 := (Array.getElem?_eq_some_iff.1 q1).1
  have HM := Lib.hid hm3
  have hgl : g < w2.heap.size := World.block_lt_of_cell? w2 _ (hm3 0 (by omega)).1
  obtain ⟨L, hL⟩ : ∃ L, L = p.ms.length := ⟨_, rfl⟩
  have HL := Lib.hid hL
  rw [← hL] at hL1 hL2 ⊢
  clear q0 q1 hb2 Hb0 Hr hm3 hL hg
  go_wp2_with fail
  go_loopg [18] (L + 1) (fun m iv wr => ∃ (i : Nat) (v : Value), iv = .int .i64 i ∧ Hid (m + i = L + 1) ∧ i ≤ L ∧ Hid (wr.heap[w.heap.size]? = some (.cells #[v] 28 (0, 0))) ∧ Hid (wr.ownsRow w2.heap.size 42 3 v i (m3V (p.ms.take i))) ∧ Hid (BelowX w2.heap.size w.heap.size w2 wr))
  case atStart => exact ⟨0, _, rfl, rfl, Nat.zero_le _, Q0, World.ownsRow_nil _ _ _ _, BelowX.refl _ _ _⟩
  case round =>
    obtain ⟨i, v, rfl, hm, hiL, hrow, hown, hbel⟩ := hrel
    obtain ⟨ao, cc, rfl⟩ := owns_shape3 hown.out
    have hne : g ≠ w.heap.size := by omega
    by_cases hin : i < L
    · have hlt : decide ((i : Int) < (L : Int)) = true := decide_eq_true (by omega)
      have p1 : (0 : Int) ≤ (i : Int) := by omega
      have p2 : (i : Int) < (L : Int) := by omega
      obtain ⟨a0, a1, a2⟩ := HM.out i (by have := HL.out; omega)
      have c0 := (hbel.out.cell (p := ⟨g, i * 3, none⟩) hgl hne).trans a0
      have c1 := (hbel.out.cell (p := ⟨g, i * 3 + 1, none⟩) hgl hne).trans a1
      have c2 := (hbel.out.cell (p := ⟨g, i * 3 + 2, none⟩) hgl hne).trans a2
      obtain ⟨x, hx⟩ : ∃ x, x = tx (p.ms.getD i ([], [], [])).1 := ⟨_, rfl⟩
      obtain ⟨y, hy⟩ : ∃ x, x = tx (p.ms.getD i ([], [], [])).2.1 := ⟨_, rfl⟩
      obtain ⟨z, hz⟩ : ∃ x, x = tx (p.ms.getD i ([], [], [])).2.2 := ⟨_, rfl⟩
      rw [← hx] at c0
      rw [← hy] at c1
      rw [← hz] at c2
      have Hx := Lib.hid hx
      have Hy := Lib.hid hy
      have Hz := Lib.hid hz
      clear a0 a1 a2 hx hy hz
      go_upto_region 8 with fail
      have HQ : Hid (Q3 w w.heap.size (.slice ao i cc) i wr.heap.size x y z (m3V (p.ms.take i)) w2.heap.size (wr.alloc (.cells #[.string x, .string y, .string z] 67)) (wr.alloc (.cells #[.string x, .string y, .string z] 67))) := by
        have r3 := heap_alloc_new wr (.cells #[.string x, .string y, .string z] 67)
        have r := (below_heap_alloc wr (.cells #[.string x, .string y, .string z] 67) (Array.getElem?_eq_some_iff.1 hrow.out).1).trans hrow.out
        exact ⟨row_cell (l := [.slice ao i cc]) r (j := 0) rfl, row_free (l := [.slice ao i cc]) r 0, row_cell (l := [.string x, .string y, .string z]) r3 (j := 0) rfl, row_cell (l := [.string x, .string y, .string z]) r3 (j := 1) rfl, row_cell (l := [.string x, .string y, .string z]) r3 (j := 2) rfl, r, own_below3 hown.out (below_alloc1 _ _), Below.refl _ _⟩
      have HnX : Hid (w.heap.size < (wr.alloc (.cells #[.string x, .string y, .string z] 67)).heap.size) := Nat.lt_of_lt_of_le (Array.getElem?_eq_some_iff.1 hrow.out).1 (below_alloc1 wr _).size
      have HbX : Hid (wr.heap.size < (wr.alloc (.cells #[.string x, .string y, .string z] 67)).heap.size) := (show _ < _ by simp)
      have HwX : Hid (w2.heap.size ≤ (wr.alloc (.cells #[.string x, .string y, .string z] 67)).heap.size) := Nat.le_trans hbel.out.size (below_alloc1 wr _).size
      have HbelX : Hid (BelowX w2.heap.size w.heap.size w2 (wr.alloc (.cells #[.string x, .string y, .string z] 67))) := hbel.out.trans (BelowX.of_below ((below_alloc1 wr _).mono hbel.out.size))
      clear hrow hown hbel c0 c1 c2
      generalize (wr.alloc (.cells #[.string x, .string y, .string z] 67)) = X at *
      obtain ⟨d0, d1, d2, d3, d4, -⟩ := HQ.out
      refine wp_region_noPanic ?_
      go_region_law (first | (go_simp; go_at_call 27; (with_reducible refine (mapping_any x y z _).mono ?_); rintro e w8 ⟨rfl, hb8⟩; have HQ : Hid (Q3 w w.heap.size (.slice ao i cc) i wr.heap.size x y z (m3V (p.ms.take i)) w2.heap.size X w8) := (by first | exact Q3.keep HQ.out hb8 HnX.out HbX.out | exact Q3.keep (Q3.keep HQ.out (Below.refl _ _).drew HnX.out HbX.out) hb8 HnX.out HbX.out); obtain ⟨d0, d1, d2, d3, d4, -⟩ := HQ.out; have d5 : ∀ o : Obj, (w8.alloc o).cell? ⟨w.heap.size, 0, none⟩ = some (.slice ao i cc) := fun o => row_cell (l := [.slice ao i cc]) ((below_heap_alloc w8 o (Nat.lt_of_lt_of_le HnX.out HQ.out.2.2.2.2.2.2.2.size)).trans HQ.out.2.2.2.2.2.1) (j := 0) rfl) | ((refine step_append_lies _ (by rfl) _ _ _ (by rfl) w2.heap.size 42 i0 (.agg #[.string ⟨#[]⟩, .string ⟨#[]⟩, .string ⟨#[]⟩]) 3 48 Tryz.underlying28 hi hz0 hz1 hz2 rfl (by decide) (.slice ao i cc) i (m3V (p.ms.take i)) (by rfl) (by first | exact own_below3 HQ.out.2.2.2.2.2.2.1 (below_alloc1 _ _) | exact own_below3 HQ.out.2.2.2.2.2.2.1 (below_alloc1d _ _)) ⟨_, 0, none⟩ 1 1 [.string x, .string y, .string z] (by rfl) rfl (cell_three_new _ _ _ _ _) (three_str _ _ _) (by decide) (by unfold maxLen; omega) (by omega) (by exact Nat.le_trans HwX.out (Nat.le_trans HQ.out.2.2.2.2.2.2.2.size (by first | exact (below_alloc1 _ _).size | exact (below_alloc1d _ _).size))) _ rfl ?_); intro gq cap w9 hown9 hgrow9 hat hltq; have r9 : w9.heap[w.heap.size]? = some (.cells #[.slice ao i cc] 28 (0, 0)) := own_cells3 (by first | exact ((below_alloc1 _ _).block _ (Nat.lt_of_lt_of_le HnX.out HQ.out.2.2.2.2.2.2.2.size)).trans HQ.out.2.2.2.2.2.1 | exact ((below_alloc1d _ _).block _ (Nat.lt_of_lt_of_le HnX.out HQ.out.2.2.2.2.2.2.2.size)).trans HQ.out.2.2.2.2.2.1) hgrow9 (fun k hk => Nat.lt_of_lt_of_le l0 (own_block_ge3 HQ.out.2.2.2.2.2.2.1 k hk)); have d0 := row_cell (l := [.slice ao i cc]) r9 (j := 0) rfl; have d1 := row_free (l := [.slice ao i cc]) r9 0))
      all_goals refine NoPanic.normal ?_
      all_goals go_wp2_with fail
      all_goals
        go_roundg (gk - 1)
        case measure => have := hm.out; omega
        case rel =>
          have e1 := hm.out
          have hge := own_block_ge3 HQ.out.2.2.2.2.2.2.1
          have hb9 : Below w2.heap.size X w9 := ((HQ.out.2.2.2.2.2.2.2.mono HwX.out).trans ((below_alloc1 w8 (.cells #[.string x, .string y, .string z] 42)).mono (Nat.le_trans HwX.out HQ.out.2.2.2.2.2.2.2.size))).grown hgrow9 (Nat.le_trans HwX.out (Nat.le_trans HQ.out.2.2.2.2.2.2.2.size (below_alloc1 w8 (.cells #[.string x, .string y, .string z] 42)).size)) hge
          refine ⟨i + 1, .slice (some ⟨gq, 0, none⟩) (i + 1) cap, by go_num, (show _ = _ by omega), by omega, ?_, ?_, (HbelX.out.trans (BelowX.of_below hb9)).setCell 0 _⟩
          · show _ = _
            rw [heap_setCell_same _ _ _ _ _ _ r9]; rfl
          · show World.ownsRow _ _ _ _ _ _ _
            refine ownsRow_setCell_below ?_ (by show w.heap.size < _; exact l0) _
            rw [HmsT.out i (by have := HL.out; omega), m3V_snoc, ← Hx.out, ← Hy.out, ← Hz.out]
            exact hown9
    · obtain rfl : i = L := by omega
      have hlt : decide ((i : Int) < (i : Int)) = false := by simp
      have Hfin : Hid (∃ gg c, Value.slice ao i cc = .slice (some ⟨gg, 0, none⟩) p.ms.length c ∧ w2.heap.size ≤ gg ∧ M3At wr gg p.ms) := by
        have h := hown.out
        rw [HL.out, List.take_length] at h
        obtain ⟨gg, c, e, hg, hm3⟩ := m3_of_own h rfl (by have := HL.out; omega)
        exact ⟨gg, c, by rw [HL.out]; exact e, hg, hm3⟩
      have c0 := row_cell (l := [.slice ao i cc]) hrow.out (j := 0) rfl
      have f0 := row_free (l := [.slice ao i cc]) hrow.out 0
      have r1 := (hbel.out.block (w.heap.size + 1) l1 (by omega)).trans Q1.out
      have c1 := row_cell (l := [.bool false]) r1 (j := 0) rfl
      have f1 := row_free (l := [.bool false]) r1 0
      have HBw : Hid (Below w.heap.size w wr) := Hb2.out.trans (hbel.out.below (Nat.le_refl _) Hb2.out.size)
      clear hown r1
      go_wp2_with fail
      refine leaves_cons (f := 25) (args := #[.pointer (some ⟨w.heap.size, 0, none⟩), .pointer (some ⟨w.heap.size + 1, 0, none⟩)]) (by simp) (by simp [go_sem]) ?_
      refine (specGuard_idle ⟨w.heap.size, 0, none⟩ ⟨w.heap.size + 1, 0, none⟩ _).mono ?_
      rintro e u' w'' ⟨rfl, rfl, rfl⟩
      simp [Leaves, settle, results, Tryz.results10, go_sem, c0, c1, f0, f1]
      obtain ⟨gg, cq, e, hgg, hm3⟩ := Hfin.out
      simp only [Value.slice.injEq] at e
      refine ⟨gg, ⟨e.1, e.2.1⟩, Nat.le_trans Hb2.out.size hgg, m3_setCell (m3_setCell hm3 (by omega)) (by omega), (HBw.out.setCell (Nat.le_refl _) _).setCell (Nat.le_succ _) _⟩
end Go.Proofs.YtdmggcbbfljciaaGreatDoor
