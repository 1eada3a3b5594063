/- spec.Bound. -/
import Derived.Test.YtaloidnoeafgiaaGreatDoorSpec7
import Derived.Test.YtaloidnoeafgiaaGreatDoorImplLv
import Derived.Test.YtaloidnoeafgiaaGreatDoorLvTwo
import Derived.Test.YtaloidnoeafgiaaGreatDoorS4
import Derived.Deep.CutRange
import Derived.BigQuiet
import Derived.Laws.ResultCell
import Derived.Deep.RegionHeld3
namespace Go.Proofs.YtaloidnoeafgiaaGreatDoor
open Go.RowKit Go.Lib

theorem max_int' (m n : Nat) : max (m : Int) (n : Int) = ((max m n : Nat) : Int) := by omega
theorem min_int' (m n : Nat) : min (m : Int) (n : Int) = ((min m n : Nat) : Int) := by omega

theorem common_out (ao : Option Addr) (ns : List Nat) (c : Nat) (bo : Option Addr) (ks : List Nat) (d : Nat) (w : World) (h : NatsAt w ao ns) (h' : NatsAt w bo ks) (hl : ns.length ≤ 500) (hl' : ks.length ≤ 500) :
    Calls Tryz.prog 25 #[.slice ao ns.length c, .slice bo ks.length d] w fun e w' => ∃ (av : Option Addr) (cv : Nat), e = .returned (.slice av (comL ns ks).length cv) ∧ NatsAt w' av (comL ns ks) ∧ Above w.heap.size (.slice av (comL ns ks).length cv) ∧ Below w.heap.size w w' := by
  refine (common_any ao ns c bo ks d w h h' hl hl').mono ?_
  rintro e w' ⟨v, rfl, hown, hb⟩
  have ha := above_own hown
  obtain ⟨av, cv, rfl, hv, _⟩ := ints_of_own hown
  exact ⟨av, cv, rfl, hv, ha, hb⟩

/-- the cells of two spans -/
def S8 (V : World) (b b' : Nat) (x0 x1 x2 x3 y0 y1 y2 y3 : Value) (X : World) : Prop := X.cell? ⟨b, 0, none⟩ = some x0 ∧ X.cell? ⟨b, 1, none⟩ = some x1 ∧ X.cell? ⟨b, 2, none⟩ = some x2 ∧ X.cell? ⟨b, 3, none⟩ = some x3 ∧ X.cell? ⟨b', 0, none⟩ = some y0 ∧ X.cell? ⟨b', 1, none⟩ = some y1 ∧ X.cell? ⟨b', 2, none⟩ = some y2 ∧ X.cell? ⟨b', 3, none⟩ = some y3 ∧ Below V.heap.size V X
theorem S8.keep {X V : World} {b b' : Nat} {x0 x1 x2 x3 y0 y1 y2 y3 : Value} (l : b < V.heap.size) (l' : b' < V.heap.size) (h : S8 V b b' x0 x1 x2 x3 y0 y1 y2 y3 V) (hb : Below V.heap.size V X) : S8 V b b' x0 x1 x2 x3 y0 y1 y2 y3 X := by
  have k : ∀ j, X.cell? ⟨b, j, none⟩ = V.cell? ⟨b, j, none⟩ := fun j => hb.cell (p := ⟨b, j, none⟩) l
  have k' : ∀ j, X.cell? ⟨b', j, none⟩ = V.cell? ⟨b', j, none⟩ := fun j => hb.cell (p := ⟨b', j, none⟩) l'
  exact ⟨(k 0).trans h.1, (k 1).trans h.2.1, (k 2).trans h.2.2.1, (k 3).trans h.2.2.2.1, (k' 0).trans h.2.2.2.2.1, (k' 1).trans h.2.2.2.2.2.1, (k' 2).trans h.2.2.2.2.2.2.1, (k' 3).trans h.2.2.2.2.2.2.2.1, hb⟩

/-- the cells of two spans, where another block may be written -/
def S8x (V : World) (g b b' : Nat) (x0 x1 x2 x3 y0 y1 y2 y3 : Value) (X : World) : Prop := X.cell? ⟨b, 0, none⟩ = some x0 ∧ X.cell? ⟨b, 1, none⟩ = some x1 ∧ X.cell? ⟨b, 2, none⟩ = some x2 ∧ X.cell? ⟨b, 3, none⟩ = some x3 ∧ X.cell? ⟨b', 0, none⟩ = some y0 ∧ X.cell? ⟨b', 1, none⟩ = some y1 ∧ X.cell? ⟨b', 2, none⟩ = some y2 ∧ X.cell? ⟨b', 3, none⟩ = some y3 ∧ BelowX V.heap.size g V X
theorem S8x.keep {X V : World} {g b b' : Nat} {x0 x1 x2 x3 y0 y1 y2 y3 : Value} (l : b < V.heap.size) (l' : b' < V.heap.size) (n : b ≠ g) (n' : b' ≠ g) (h : S8 V b b' x0 x1 x2 x3 y0 y1 y2 y3 V) (hb : BelowX V.heap.size g V X) : S8x V g b b' x0 x1 x2 x3 y0 y1 y2 y3 X := by
  have k : ∀ j, X.cell? ⟨b, j, none⟩ = V.cell? ⟨b, j, none⟩ := fun j => hb.cell (p := ⟨b, j, none⟩) l n
  have k' : ∀ j, X.cell? ⟨b', j, none⟩ = V.cell? ⟨b', j, none⟩ := fun j => hb.cell (p := ⟨b', j, none⟩) l' n'
  exact ⟨(k 0).trans h.1, (k 1).trans h.2.1, (k 2).trans h.2.2.1, (k 3).trans h.2.2.2.1, (k' 0).trans h.2.2.2.2.1, (k' 1).trans h.2.2.2.2.2.1, (k' 2).trans h.2.2.2.2.2.2.1, (k' 3).trans h.2.2.2.2.2.2.2.1, hb⟩
theorem BelowX.drew {B b : Nat} {w w' : World} (h : BelowX B b w w') : BelowX B b w w'.drew := ⟨h.os, h.tape, h.output, h.size, h.block⟩

/-- a box of four cells that is free to write -/
def Z4 (g : Nat) (X : World) : Prop := X.heap[g]? = some (.cells #[.int .i64 0, .slice none 0 0, .int .i64 0, .slice none 0 0] 26 (0, 0))
theorem Z4.keep {X V : World} {g : Nat} (lg : g < V.heap.size) (h : Z4 g V) (hb : Below V.heap.size V X) : Z4 g X := (hb.block g lg).trans h
theorem Z4.facts {X : World} {g : Nat} (h : Z4 g X) : X.cell? ⟨g, 0, none⟩ = some (.int .i64 0) ∧ X.cell? ⟨g, 1, none⟩ = some (.slice none 0 0) ∧ X.cell? ⟨g, 2, none⟩ = some (.int .i64 0) ∧ X.cell? ⟨g, 3, none⟩ = some (.slice none 0 0) ∧ X.frozen? ⟨g, 0, none⟩ = false ∧ X.frozen? ⟨g, 1, none⟩ = false ∧ X.frozen? ⟨g, 2, none⟩ = false ∧ X.frozen? ⟨g, 3, none⟩ = false :=
  ⟨row_cell (l := [.int .i64 0, .slice none 0 0, .int .i64 0, .slice none 0 0]) h (j := 0) rfl, row_cell (l := [.int .i64 0, .slice none 0 0, .int .i64 0, .slice none 0 0]) h (j := 1) rfl, row_cell (l := [.int .i64 0, .slice none 0 0, .int .i64 0, .slice none 0 0]) h (j := 2) rfl, row_cell (l := [.int .i64 0, .slice none 0 0, .int .i64 0, .slice none 0 0]) h (j := 3) rfl,
   row_free (l := [.int .i64 0, .slice none 0 0, .int .i64 0, .slice none 0 0]) h 0, row_free (l := [.int .i64 0, .slice none 0 0, .int .i64 0, .slice none 0 0]) h 1, row_free (l := [.int .i64 0, .slice none 0 0, .int .i64 0, .slice none 0 0]) h 2, row_free (l := [.int .i64 0, .slice none 0 0, .int .i64 0, .slice none 0 0]) h 3⟩

theorem four_kept {X : World} {g : Nat} {u0 u1 u2 u3 : Value} {ao : Option Addr} {ns : List Nat} (h : NatsAt X ao ns) (p : ns ≠ [] → ∀ x, ao = some x → x.block ≠ g) : NatsAt ((((X.setCell ⟨g, 0, none⟩ u0).setCell ⟨g, 1, none⟩ u1).setCell ⟨g, 2, none⟩ u2).setCell ⟨g, 3, none⟩ u3) ao ns :=
  h.kept (g1 := g) (g2 := g) (by simp only [setCell_size]; exact Nat.le_refl _) (fun k _ hk _ => by rw [Below.heap_setCell _ _ _ _ hk, Below.heap_setCell _ _ _ _ hk, Below.heap_setCell _ _ _ _ hk, Below.heap_setCell _ _ _ _ hk]) p p

set_option maxRecDepth 100000 in
set_option maxHeartbeats 4000000 in
theorem bound_none (s s' t t' : Nat) (ao : Option Addr) (n c : Nat) (ao' : Option Addr) (n' c' : Nat) (bo : Option Addr) (m d : Nat) (bo' : Option Addr) (m' d' : Nat) (w : World) (h : s' < t ∨ t' < s) :
    Calls Tryz.prog 9 #[.agg #[.int .i64 s, .slice ao n c, .int .i64 s', .slice ao' n' c'], .agg #[.int .i64 t, .slice bo m d, .int .i64 t', .slice bo' m' d']] w fun e w' => e = .returned (.tuple #[.agg #[.int .i64 0, .slice none 0 0, .int .i64 0, .slice none 0 0], .bool false]) ∧ Below w.heap.size w w' := by
  by_cases h1 : s' < t
  · have d1 : decide ((s' : Int) < (t : Int)) = true := by simp; omega
    have d1n : decide (s' < t) = true := decide_eq_true h1
    clear h
    go_enter Tryz.func9, Tryz.ntmps9
    go_wp2_with fail
    (try simp only [Exit.inBlock, Exit.then])
    refine bodyPost_ret (v := .tuple #[.agg #[.int .i64 0, .slice none 0 0, .int .i64 0, .slice none 0 0], .bool false]) ?_ rfl ⟨rfl, ?_⟩
    · rw [results_cell_tmp rfl]; go_simp
    · exact (((Below.refl _ _).alloc (Nat.le_refl _) _).alloc (by simp) _).alloc (by simp; omega) _
  · have d1 : decide ((s' : Int) < (t : Int)) = false := by simp; omega
    have d1n : decide (s' < t) = false := decide_eq_false h1
    have d2 : decide ((t' : Int) < (s : Int)) = true := by simp; omega
    have d2n : decide (t' < s) = true := decide_eq_true (by omega)
    clear h
    go_enter Tryz.func9, Tryz.ntmps9
    go_wp2_with fail
    (try simp only [Exit.inBlock, Exit.then])
    refine bodyPost_ret (v := .tuple #[.agg #[.int .i64 0, .slice none 0 0, .int .i64 0, .slice none 0 0], .bool false]) ?_ rfl ⟨rfl, ?_⟩
    · rw [results_cell_tmp rfl]; go_simp
    · exact (((Below.refl _ _).alloc (Nat.le_refl _) _).alloc (by simp) _).alloc (by simp; omega) _

set_option maxRecDepth 100000 in
set_option maxHeartbeats 4000000 in
theorem bound_some (s s' t t' : Nat) (ao : Option Addr) (ns : List Nat) (c : Nat) (ao' : Option Addr) (ns' : List Nat) (c' : Nat) (bo : Option Addr) (ks : List Nat) (d : Nat) (bo' : Option Addr) (ks' : List Nat) (d' : Nat) (w : World) (h1 : ¬ s' < t) (h2 : ¬ t' < s)
    (ha : NatsAt w ao ns) (ha' : NatsAt w ao' ns') (hb : NatsAt w bo ks) (hb' : NatsAt w bo' ks') (la : ns.length ≤ 500) (la' : ns'.length ≤ 500) (lb : ks.length ≤ 500) (lb' : ks'.length ≤ 500) :
    Calls Tryz.prog 9 #[.agg #[.int .i64 s, .slice ao ns.length c, .int .i64 s', .slice ao' ns'.length c'], .agg #[.int .i64 t, .slice bo ks.length d, .int .i64 t', .slice bo' ks'.length d']] w
      fun e w' => ∃ (av au : Option Addr) (cv cu : Nat), e = .returned (.tuple #[.agg #[.int .i64 (max s t : Nat), .slice av (comL ns ks).length cv, .int .i64 (min s' t' : Nat), .slice au (comL ns' ks').length cu], .bool true]) ∧ NatsAt w' av (comL ns ks) ∧ NatsAt w' au (comL ns' ks') ∧ Below w.heap.size w w' := by
  have d1 : decide ((s' : Int) < (t : Int)) = false := by simp; omega
  have d1n : decide (s' < t) = false := decide_eq_false h1
  have d2 : decide ((t' : Int) < (s : Int)) = false := by simp; omega
  have d2n : decide (t' < s) = false := decide_eq_false h2
  clear h1 h2
  have HC := Lib.hid (fun W hW => common_out ao ns c bo ks d W (ha.below hW) (hb.below hW) la lb)
  have HC' := Lib.hid (fun W hW => common_out ao' ns' c' bo' ks' d' W (ha'.below hW) (hb'.below hW) la' lb')
  clear ha ha' hb hb' la la' lb lb'
  generalize comL ns ks = cs at *
  generalize comL ns' ks' = cs' at *
  generalize ns.length = n at *
  generalize ns'.length = n' at *
  generalize ks.length = k at *
  generalize ks'.length = k' at *
  have HU0 : Hid (Below w.heap.size w (((w.alloc (.cells #[.int .i64 s, .slice ao n c, .int .i64 s', .slice ao' n' c'] 26)).alloc (.cells #[.int .i64 t, .slice bo k d, .int .i64 t', .slice bo' k' d'] 26)).alloc (.cells #[.int .i64 0, .slice none 0 0, .int .i64 0, .slice none 0 0] 26))) := (((Below.refl _ _).alloc (Nat.le_refl _) _).alloc (by simp) _).alloc (by simp; omega) _
  have r0 : (((w.alloc (.cells #[.int .i64 s, .slice ao n c, .int .i64 s', .slice ao' n' c'] 26)).alloc (.cells #[.int .i64 t, .slice bo k d, .int .i64 t', .slice bo' k' d'] 26)).alloc (.cells #[.int .i64 0, .slice none 0 0, .int .i64 0, .slice none 0 0] 26)).heap[w.heap.size]? = some (.cells #[.int .i64 s, .slice ao n c, .int .i64 s', .slice ao' n' c'] 26 (0, 0)) := by
    rw [Below.heap_alloc _ _ _ (by simp; omega), Below.heap_alloc _ _ _ (by simp)]; exact heap_alloc_new _ _
  have r1 : (((w.alloc (.cells #[.int .i64 s, .slice ao n c, .int .i64 s', .slice ao' n' c'] 26)).alloc (.cells #[.int .i64 t, .slice bo k d, .int .i64 t', .slice bo' k' d'] 26)).alloc (.cells #[.int .i64 0, .slice none 0 0, .int .i64 0, .slice none 0 0] 26)).heap[w.heap.size + 1]? = some (.cells #[.int .i64 t, .slice bo k d, .int .i64 t', .slice bo' k' d'] 26 (0, 0)) := by
    rw [Below.heap_alloc _ _ _ (by simp)]
    have h := heap_alloc_new (w.alloc (.cells #[.int .i64 s, .slice ao n c, .int .i64 s', .slice ao' n' c'] 26)) (.cells #[.int .i64 t, .slice bo k d, .int .i64 t', .slice bo' k' d'] 26)
    simpa using h
  have r2 : (((w.alloc (.cells #[.int .i64 s, .slice ao n c, .int .i64 s', .slice ao' n' c'] 26)).alloc (.cells #[.int .i64 t, .slice bo k d, .int .i64 t', .slice bo' k' d'] 26)).alloc (.cells #[.int .i64 0, .slice none 0 0, .int .i64 0, .slice none 0 0] 26)).heap[w.heap.size + 1 + 1]? = some (.cells #[.int .i64 0, .slice none 0 0, .int .i64 0, .slice none 0 0] 26 (0, 0)) := by
    have h := heap_alloc_new ((w.alloc (.cells #[.int .i64 s, .slice ao n c, .int .i64 s', .slice ao' n' c'] 26)).alloc (.cells #[.int .i64 t, .slice bo k d, .int .i64 t', .slice bo' k' d'] 26)) (.cells #[.int .i64 0, .slice none 0 0, .int .i64 0, .slice none 0 0] 26)
    simpa using h
  go_enter Tryz.func9, Tryz.ntmps9
  go_upto_region 3 with fail
  generalize (((w.alloc (.cells #[.int .i64 s, .slice ao n c, .int .i64 s', .slice ao' n' c'] 26)).alloc (.cells #[.int .i64 t, .slice bo k d, .int .i64 t', .slice bo' k' d'] 26)).alloc (.cells #[.int .i64 0, .slice none 0 0, .int .i64 0, .slice none 0 0] 26)) = V at *
  have hv0 := (Array.getElem?_eq_some_iff.1 r0).1
  have hv1 := (Array.getElem?_eq_some_iff.1 r1).1
  have hv2 := (Array.getElem?_eq_some_iff.1 r2).1
  have R2 := Lib.hid r2
  have HS : Hid (S8 V w.heap.size (w.heap.size + 1) (.int .i64 s) (.slice ao n c) (.int .i64 s') (.slice ao' n' c') (.int .i64 t) (.slice bo k d) (.int .i64 t') (.slice bo' k' d') V) :=
    ⟨row_cell (l := [.int .i64 s, .slice ao n c, .int .i64 s', .slice ao' n' c']) r0 (j := 0) rfl, row_cell (l := [.int .i64 s, .slice ao n c, .int .i64 s', .slice ao' n' c']) r0 (j := 1) rfl, row_cell (l := [.int .i64 s, .slice ao n c, .int .i64 s', .slice ao' n' c']) r0 (j := 2) rfl, row_cell (l := [.int .i64 s, .slice ao n c, .int .i64 s', .slice ao' n' c']) r0 (j := 3) rfl,
     row_cell (l := [.int .i64 t, .slice bo k d, .int .i64 t', .slice bo' k' d']) r1 (j := 0) rfl, row_cell (l := [.int .i64 t, .slice bo k d, .int .i64 t', .slice bo' k' d']) r1 (j := 1) rfl, row_cell (l := [.int .i64 t, .slice bo k d, .int .i64 t', .slice bo' k' d']) r1 (j := 2) rfl, row_cell (l := [.int .i64 t, .slice bo k d, .int .i64 t', .slice bo' k' d']) r1 (j := 3) rfl, Below.refl _ _⟩
  have HZ : Hid (Z4 (w.heap.size + 1 + 1) V) := r2
  have na : w.heap.size ≠ w.heap.size + 1 + 1 := by omega
  have nb : w.heap.size + 1 ≠ w.heap.size + 1 + 1 := by omega
  clear r0 r1 r2 d1 d1n d2 d2n
  obtain ⟨a0, a1, a2, a3, b0, b1, b2, b3, HB3⟩ := HS.out
  go_region_held3 (fun W => W.cell? ⟨w.heap.size, 0, none⟩ = some (.int .i64 s) ∧ W.cell? ⟨w.heap.size, 1, none⟩ = some (.slice ao n c) ∧ W.cell? ⟨w.heap.size, 2, none⟩ = some (.int .i64 s') ∧ W.cell? ⟨w.heap.size, 3, none⟩ = some (.slice ao' n' c') ∧ W.cell? ⟨w.heap.size + 1, 0, none⟩ = some (.int .i64 t) ∧ W.cell? ⟨w.heap.size + 1, 1, none⟩ = some (.slice bo k d) ∧ W.cell? ⟨w.heap.size + 1, 2, none⟩ = some (.int .i64 t') ∧ W.cell? ⟨w.heap.size + 1, 3, none⟩ = some (.slice bo' k' d') ∧ BelowX V.heap.size (w.heap.size + 1 + 1) V W)
    (first | exact S8x.keep hv0 hv1 na nb HS.out (BelowX.of_below HB3) | exact S8x.keep hv0 hv1 na nb HS.out (BelowX.of_below HB3).drew | (refine S8x.keep hv0 hv1 na nb HS.out ?_; repeat (first | exact BelowX.of_below HB3 | refine BelowX.drew ?_ | refine BelowX.setCell ?_ _ _)))
    (first
      | (go_at_call 25; (first | (with_reducible refine (HC.out _ (HU0.out.trans (HB3.mono HU0.out.size))).mono ?_) | (with_reducible refine (HC.out _ (HU0.out.trans (HB3.drew.mono HU0.out.size))).mono ?_)); rintro e w8 ⟨av, cv, rfl, hav, hab, hb4⟩; have pv : cs ≠ [] → ∀ x, av = some x → x.block ≠ w.heap.size + 1 + 1 := fun hn x e => hab.apart (Nat.lt_of_lt_of_le hv2 HB3.size) hn x e; (first | have hau := NatsAt.below (h := hau) (hb := hb4) | skip); have HB3 := bl_step hb4 (by first | (with_reducible exact HB3) | (with_reducible exact HB3.drew)); obtain ⟨a0, a1, a2, a3, b0, b1, b2, b3, -⟩ := S8.keep hv0 hv1 HS.out HB3; obtain ⟨z0, z1, z2, z3, k0, k1, k2, k3⟩ := (Z4.keep hv2 HZ.out HB3).facts)
      | (go_at_call 25; (first | (with_reducible refine (HC'.out _ (HU0.out.trans (HB3.mono HU0.out.size))).mono ?_) | (with_reducible refine (HC'.out _ (HU0.out.trans (HB3.drew.mono HU0.out.size))).mono ?_)); rintro e w9 ⟨au, cu, rfl, hau, hab, hb4⟩; have pu : cs' ≠ [] → ∀ x, au = some x → x.block ≠ w.heap.size + 1 + 1 := fun hn x e => hab.apart (Nat.lt_of_lt_of_le hv2 HB3.size) hn x e; (first | have hav := NatsAt.below (h := hav) (hb := hb4) | skip); have HB3 := bl_step hb4 (by first | (with_reducible exact HB3) | (with_reducible exact HB3.drew)); obtain ⟨a0, a1, a2, a3, b0, b1, b2, b3, -⟩ := S8.keep hv0 hv1 HS.out HB3; obtain ⟨z0, z1, z2, z3, k0, k1, k2, k3⟩ := (Z4.keep hv2 HZ.out HB3).facts))
  all_goals go_wp2_with fail
  all_goals (try simp only [Exit.inBlock, Exit.then])
  all_goals refine bodyPost_ret (v := .tuple #[.agg #[.int .i64 (max s t : Nat), .slice av cs.length cv, .int .i64 (min s' t' : Nat), .slice au cs'.length cu], .bool true]) ?_ rfl ⟨av, au, cv, cu, rfl, four_kept hav pv, four_kept hau pu, ?_⟩
  all_goals first
    | exact ((((HU0.out.trans (HB3.mono HU0.out.size)).setCell (by show _ ≤ w.heap.size + 1 + 1; omega) _).setCell (by show _ ≤ w.heap.size + 1 + 1; omega) _).setCell (by show _ ≤ w.heap.size + 1 + 1; omega) _).setCell (by show _ ≤ w.heap.size + 1 + 1; omega) _
    | (rw [results_cell_tmp rfl, ← max_int', ← min_int']; go_simp)
end Go.Proofs.YtaloidnoeafgiaaGreatDoor
