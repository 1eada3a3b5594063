/- two boxes of levels, made and filled. -/
import Derived.Test.YtaloidnoeafgiaaGreatDoorLvSame
namespace Go.Proofs.YtaloidnoeafgiaaGreatDoor
open Go.RowKit Go.Lib

theorem NatsAt.kept {W W' : World} {ao : Option Addr} {ns : List Nat} {g1 g2 : Nat} (h : NatsAt W ao ns) (hs : W.heap.size ≤ W'.heap.size) (hk : ∀ k, k < W.heap.size → k ≠ g1 → k ≠ g2 → W'.heap[k]? = W.heap[k]?)
    (h1 : ns ≠ [] → ∀ x, ao = some x → x.block ≠ g1) (h2 : ns ≠ [] → ∀ x, ao = some x → x.block ≠ g2) : NatsAt W' ao ns := by
  intro i hi
  obtain ⟨x, e, hx, hc⟩ := h i hi
  have hn : ns ≠ [] := by rintro rfl; simp at hi
  refine ⟨x, e, Nat.lt_of_lt_of_le hx hs, ?_⟩
  rw [← hc]
  exact World.cell?_of_block (w := W) (by rw [add_block]; exact hk _ hx (h1 hn x e) (h2 hn x e))

theorem NatsAt.block {W : World} {ao : Option Addr} {ns : List Nat} (h : NatsAt W ao ns) (hn : ns ≠ []) (x : Addr) (e : ao = some x) : x.block < W.heap.size := by
  obtain ⟨y, e', hy, _⟩ := h 0 (by cases ns with | nil => exact absurd rfl hn | cons _ _ => simp)
  rw [e] at e'
  cases e'
  exact hy
/-- a row lies before a block that was not there -/
theorem NatsAt.apart {W : World} {ao : Option Addr} {ns : List Nat} (h : NatsAt W ao ns) {g : Nat} (hg : W.heap.size ≤ g) (hn : ns ≠ []) (x : Addr) (e : ao = some x) : x.block ≠ g := Nat.ne_of_lt (Nat.lt_of_lt_of_le (h.block hn x e) hg)
/-- a row lies behind a block that was there -/
theorem Above.apart {B : Nat} {ao : Option Addr} {ns : List Nat} {n c : Nat} (h : Above B (.slice ao n c)) {g : Nat} (hg : g < B) (_ : ns ≠ []) (x : Addr) (e : ao = some x) : x.block ≠ g := Nat.ne_of_gt (Nat.lt_of_lt_of_le hg (h x n c (by rw [e])))

/-- a box of a level, new since V, not yet filled -/
structure Fr (B : Nat) (W : World) (g : Nat) : Prop where
  lo : B ≤ g
  at_ : W.heap[g]? = some (.cells #[.int .i64 0, .slice none 0 0] 34 (0, 0))

theorem Fr.lt {B : Nat} {W : World} {g : Nat} (h : Fr B W g) : g < W.heap.size := (Array.getElem?_eq_some_iff.1 h.at_).1
theorem Fr.below {B : Nat} {W W' : World} {g : Nat} (h : Fr B W g) (hb : Below W.heap.size W W') : Fr B W' g := ⟨h.lo, by rw [hb.block g h.lt]; exact h.at_⟩
theorem Fr.alloc {B : Nat} {W : World} {g : Nat} (h : Fr B W g) (o : Obj) : Fr B (W.alloc o) g := ⟨h.lo, by rw [Below.heap_alloc _ _ _ h.lt]; exact h.at_⟩
theorem Fr.drew {B : Nat} {W : World} {g : Nat} (h : Fr B W g) : Fr B W.drew g := ⟨h.lo, h.at_⟩
theorem Fr.new {B : Nat} {W : World} (h : B ≤ W.heap.size) : Fr B (W.alloc (.cells #[.int .i64 0, .slice none 0 0] 34)) W.heap.size := ⟨h, heap_alloc_new _ _⟩
theorem Fr.new2 {B : Nat} {W : World} (h : B ≤ W.heap.size) (o : Obj) : Fr B ((W.alloc o).alloc (.cells #[.int .i64 0, .slice none 0 0] 34)) (W.heap.size + 1) := by
  have := Fr.new (B := B) (W := W.alloc o) (by simp; omega)
  simpa using this
theorem Fr.c0 {B : Nat} {W : World} {g : Nat} (h : Fr B W g) : W.cell? ⟨g, 0, none⟩ = some (.int .i64 0) := row_cell (l := [.int .i64 0, .slice none 0 0]) h.at_ (j := 0) rfl
theorem Fr.c1 {B : Nat} {W : World} {g : Nat} (h : Fr B W g) : W.cell? ⟨g, 1, none⟩ = some (.slice none 0 0) := row_cell (l := [.int .i64 0, .slice none 0 0]) h.at_ (j := 1) rfl
theorem Fr.f0 {B : Nat} {W : World} {g : Nat} (h : Fr B W g) : W.frozen? ⟨g, 0, none⟩ = false := row_free (l := [.int .i64 0, .slice none 0 0]) h.at_ 0
theorem Fr.f1 {B : Nat} {W : World} {g : Nat} (h : Fr B W g) : W.frozen? ⟨g, 1, none⟩ = false := row_free (l := [.int .i64 0, .slice none 0 0]) h.at_ 1

theorem Fr.ap {B Bw : Nat} {W : World} {g n c : Nat} (_ : Fr B W g) {ao : Option Addr} (h : Above Bw (.slice ao n c)) (hg : g < Bw) {ns : List Nat} : ns ≠ [] → ∀ x, ao = some x → x.block ≠ g := fun hn x e => h.apart hg hn x e

/-- two boxes hold two levels -/
structure Two (V W : World) (s s' : Nat) (ns ns' : List Nat) (g g' : Nat) (av au : Option Addr) (cv cu : Nat) : Prop where
  below : Below V.heap.size V W
  lt : g < W.heap.size
  lt' : g' < W.heap.size
  c0 : W.cell? ⟨g, 0, none⟩ = some (.int .i64 s)
  c1 : W.cell? ⟨g, 1, none⟩ = some (.slice av ns.length cv)
  d0 : W.cell? ⟨g', 0, none⟩ = some (.int .i64 s')
  d1 : W.cell? ⟨g', 1, none⟩ = some (.slice au ns'.length cu)
  v : NatsAt W av ns
  u : NatsAt W au ns'

theorem sc_other (W : World) (a b : Addr) (v : Value) (h : a ≠ b) : (W.setCell a v).cell? b = W.cell? b := World.cell?_setCell_other _ _ _ _ h
theorem sc_same (W : World) (a : Addr) (v u : Value) (h : W.cell? a = some u) : (W.setCell a v).cell? a = some v := World.cell?_setCell_same _ _ _ h

theorem setCell_size (W : World) (a : Addr) (u : Value) : (W.setCell a u).heap.size = W.heap.size := by simp [World.setCell]

theorem Two.set {V X : World} {s s' : Nat} {ns ns' : List Nat} {g g' : Nat} {av au : Option Addr} {cv cu : Nat} (hb : Below V.heap.size V X) (h : Fr V.heap.size X g) (h' : Fr V.heap.size X g') (hne : g ≠ g')
    (hv : NatsAt X av ns) (hu : NatsAt X au ns') (a1 : ns ≠ [] → ∀ x, av = some x → x.block ≠ g) (a2 : ns ≠ [] → ∀ x, av = some x → x.block ≠ g') (b1 : ns' ≠ [] → ∀ x, au = some x → x.block ≠ g) (b2 : ns' ≠ [] → ∀ x, au = some x → x.block ≠ g') :
    Two V ((((X.setCell ⟨g, 0, none⟩ (.int .i64 s)).setCell ⟨g, 1, none⟩ (.slice av ns.length cv)).setCell ⟨g', 0, none⟩ (.int .i64 s')).setCell ⟨g', 1, none⟩ (.slice au ns'.length cu)) s s' ns ns' g g' av au cv cu := by
  have hk : ∀ k, k < X.heap.size → k ≠ g → k ≠ g' → ((((X.setCell ⟨g, 0, none⟩ (.int .i64 s)).setCell ⟨g, 1, none⟩ (.slice av ns.length cv)).setCell ⟨g', 0, none⟩ (.int .i64 s')).setCell ⟨g', 1, none⟩ (.slice au ns'.length cu)).heap[k]? = X.heap[k]? := by
    intro k _ k1 k2
    rw [Below.heap_setCell _ _ _ _ k2, Below.heap_setCell _ _ _ _ k2, Below.heap_setCell _ _ _ _ k1, Below.heap_setCell _ _ _ _ k1]
  have hz : X.heap.size ≤ ((((X.setCell ⟨g, 0, none⟩ (.int .i64 s)).setCell ⟨g, 1, none⟩ (.slice av ns.length cv)).setCell ⟨g', 0, none⟩ (.int .i64 s')).setCell ⟨g', 1, none⟩ (.slice au ns'.length cu)).heap.size := by simp only [setCell_size]; exact Nat.le_refl _
  refine ⟨(((hb.setCell h.lo _).setCell h.lo _).setCell h'.lo _).setCell h'.lo _, Nat.lt_of_lt_of_le h.lt hz, Nat.lt_of_lt_of_le h'.lt hz, ?_, ?_, ?_, ?_, hv.kept hz hk a1 a2, hu.kept hz hk b1 b2⟩
  · rw [World.cell?_setCell_far _ _ _ _ (fun e => hne e.symm), World.cell?_setCell_far _ _ _ _ (fun e => hne e.symm), sc_other _ _ _ _ (by simp), sc_same _ _ _ _ h.c0]
  · rw [World.cell?_setCell_far _ _ _ _ (fun e => hne e.symm), World.cell?_setCell_far _ _ _ _ (fun e => hne e.symm)]
    exact sc_same _ _ _ _ (by rw [sc_other _ _ _ _ (by simp)]; exact h.c1)
  · rw [sc_other _ _ _ _ (by simp)]
    exact sc_same _ _ _ _ (by rw [World.cell?_setCell_far _ _ _ _ hne, World.cell?_setCell_far _ _ _ _ hne]; exact h'.c0)
  · refine sc_same _ _ _ (.slice none 0 0) ?_
    rw [sc_other _ _ _ _ (by simp), World.cell?_setCell_far _ _ _ _ hne, World.cell?_setCell_far _ _ _ _ hne]
    exact h'.c1

theorem NatsAt.alloc {W : World} {ao : Option Addr} {ns : List Nat} (h : NatsAt W ao ns) (o : Obj) : NatsAt (W.alloc o) ao ns := h.below ((Below.refl _ _).alloc (Nat.le_refl _) _)

/-- two boxes made and filled behind all calls -/
theorem Two.new {V W : World} {s s' : Nat} {ns ns' : List Nat} {av au : Option Addr} {cv cu : Nat} (hb : Below V.heap.size V W) (hv : NatsAt W av ns) (hu : NatsAt W au ns') :
    Two V ((W.alloc (.cells #[.int .i64 s, .slice av ns.length cv] 34)).alloc (.cells #[.int .i64 s', .slice au ns'.length cu] 34)) s s' ns ns' W.heap.size (W.heap.size + 1) av au cv cu := by
  have h1 : ((W.alloc (.cells #[.int .i64 s, .slice av ns.length cv] 34)).alloc (.cells #[.int .i64 s', .slice au ns'.length cu] 34)).heap[W.heap.size]? = some (.cells #[.int .i64 s, .slice av ns.length cv] 34 (0, 0)) := by
    rw [Below.heap_alloc _ _ _ (by simp)]; exact heap_alloc_new _ _
  have h2 : ((W.alloc (.cells #[.int .i64 s, .slice av ns.length cv] 34)).alloc (.cells #[.int .i64 s', .slice au ns'.length cu] 34)).heap[W.heap.size + 1]? = some (.cells #[.int .i64 s', .slice au ns'.length cu] 34 (0, 0)) := by
    have h := heap_alloc_new (W.alloc (.cells #[.int .i64 s, .slice av ns.length cv] 34)) (.cells #[.int .i64 s', .slice au ns'.length cu] 34)
    simpa using h
  exact ⟨(hb.alloc hb.size _).alloc (by have := hb.size; simp; omega) _, (Array.getElem?_eq_some_iff.1 h1).1, (Array.getElem?_eq_some_iff.1 h2).1, row_cell (l := [.int .i64 s, .slice av ns.length cv]) h1 (j := 0) rfl, row_cell (l := [.int .i64 s, .slice av ns.length cv]) h1 (j := 1) rfl,
    row_cell (l := [.int .i64 s', .slice au ns'.length cu]) h2 (j := 0) rfl, row_cell (l := [.int .i64 s', .slice au ns'.length cu]) h2 (j := 1) rfl, (hv.alloc _).alloc _, (hu.alloc _).alloc _⟩

/-- one box filled, one made and filled -/
theorem Two.mix {V W : World} {s s' : Nat} {ns ns' : List Nat} {g : Nat} {av au : Option Addr} {cv cu : Nat} (hb : Below V.heap.size V W) (h : Fr V.heap.size W g) (hv : NatsAt W av ns) (hu : NatsAt W au ns')
    (a1 : ns ≠ [] → ∀ x, av = some x → x.block ≠ g) (b1 : ns' ≠ [] → ∀ x, au = some x → x.block ≠ g) :
    Two V (((W.setCell ⟨g, 0, none⟩ (.int .i64 s)).setCell ⟨g, 1, none⟩ (.slice av ns.length cv)).alloc (.cells #[.int .i64 s', .slice au ns'.length cu] 34)) s s' ns ns' g W.heap.size av au cv cu := by
  have hz : ((W.setCell ⟨g, 0, none⟩ (.int .i64 s)).setCell ⟨g, 1, none⟩ (.slice av ns.length cv)).heap.size = W.heap.size := by simp only [setCell_size]
  have hk : ∀ k, k < W.heap.size → k ≠ g → k ≠ g → ((W.setCell ⟨g, 0, none⟩ (.int .i64 s)).setCell ⟨g, 1, none⟩ (.slice av ns.length cv)).heap[k]? = W.heap[k]? := by
    intro k _ k1 _
    rw [Below.heap_setCell _ _ _ _ k1, Below.heap_setCell _ _ _ _ k1]
  have hv2 := hv.kept (Nat.le_of_eq hz.symm) hk a1 a1
  have hu2 := hu.kept (Nat.le_of_eq hz.symm) hk b1 b1
  have q0 : ((W.setCell ⟨g, 0, none⟩ (.int .i64 s)).setCell ⟨g, 1, none⟩ (.slice av ns.length cv)).cell? ⟨g, 0, none⟩ = some (.int .i64 s) := by
    rw [sc_other _ _ _ _ (by simp)]; exact sc_same _ _ _ _ h.c0
  have q1 : ((W.setCell ⟨g, 0, none⟩ (.int .i64 s)).setCell ⟨g, 1, none⟩ (.slice av ns.length cv)).cell? ⟨g, 1, none⟩ = some (.slice av ns.length cv) :=
    sc_same _ _ _ _ (by rw [sc_other _ _ _ _ (by simp)]; exact h.c1)
  have hbx : Below V.heap.size V ((W.setCell ⟨g, 0, none⟩ (.int .i64 s)).setCell ⟨g, 1, none⟩ (.slice av ns.length cv)) := (hb.setCell h.lo _).setCell h.lo _
  have hgx : g < ((W.setCell ⟨g, 0, none⟩ (.int .i64 s)).setCell ⟨g, 1, none⟩ (.slice av ns.length cv)).heap.size := by rw [hz]; exact h.lt
  generalize ((W.setCell ⟨g, 0, none⟩ (.int .i64 s)).setCell ⟨g, 1, none⟩ (.slice av ns.length cv)) = X at *
  have hn : (X.alloc (.cells #[.int .i64 s', .slice au ns'.length cu] 34)).heap[W.heap.size]? = some (.cells #[.int .i64 s', .slice au ns'.length cu] 34 (0, 0)) := by rw [← hz]; exact heap_alloc_new _ _
  have hc : ∀ j, (X.alloc (.cells #[.int .i64 s', .slice au ns'.length cu] 34)).cell? ⟨g, j, none⟩ = X.cell? ⟨g, j, none⟩ := fun j => World.cell?_of_block (w := X) (Below.heap_alloc _ _ _ hgx)
  exact ⟨hbx.alloc hbx.size _, by simp; omega, (Array.getElem?_eq_some_iff.1 hn).1, (hc 0).trans q0, (hc 1).trans q1, row_cell (l := [.int .i64 s', .slice au ns'.length cu]) hn (j := 0) rfl, row_cell (l := [.int .i64 s', .slice au ns'.length cu]) hn (j := 1) rfl, hv2.alloc _, hu2.alloc _⟩

theorem Two.swap {V X : World} {s s' : Nat} {ns ns' : List Nat} {g g' : Nat} {av au : Option Addr} {cv cu : Nat} (h : Two V X s' s ns' ns g' g au av cu cv) : Two V X s s' ns ns' g g' av au cv cu :=
  ⟨h.below, h.lt', h.lt, h.d0, h.d1, h.c0, h.c1, h.u, h.v⟩
end Go.Proofs.YtaloidnoeafgiaaGreatDoor
