/- calculateGlbLub: what two ranges have in common. -/
import Derived.Test.YtaloidnoeafgiaaGreatDoorBoth
import Derived.Test.YtaloidnoeafgiaaGreatDoorAndW
import Derived.Deep.Cut
import Derived.BigQuiet
import Derived.StillTailTactics
namespace Go.Proofs.YtaloidnoeafgiaaGreatDoor
open Go.RowKit Go.Lib

/-- a range's cells -/
structure Rg (W : World) (rb lb hb : Nat) (a c : Lvd) : Prop where
  c0 : W.cell? ⟨rb, 0, none⟩ = some (.pointer (some ⟨lb, 0, none⟩))
  c1 : W.cell? ⟨rb, 1, none⟩ = some (.pointer (some ⟨hb, 0, none⟩))
  p1 : W.cell? ⟨lb, 1, none⟩ = some (.int .i64 a.sens)
  q1 : W.cell? ⟨hb, 1, none⟩ = some (.int .i64 c.sens)
  lt : rb < W.heap.size
  low : LvAt' W lb a
  high : LvAt' W hb c

theorem Rg.of {W : World} {rb : Nat} {a c : Lvd} (h : RgAt W rb a c) : ∃ lb hb, Rg W rb lb hb a c := by
  obtain ⟨lb, hb, hr, hl, hh⟩ := h
  obtain ⟨p, hp⟩ := lv_row hl
  obtain ⟨q, hq⟩ := lv_row hh
  exact ⟨lb, hb, row_cell (l := [.pointer (some ⟨lb, 0, none⟩), .pointer (some ⟨hb, 0, none⟩)]) hr (j := 0) rfl, row_cell (l := [.pointer (some ⟨lb, 0, none⟩), .pointer (some ⟨hb, 0, none⟩)]) hr (j := 1) rfl,
    row_cell (l := [p, .int .i64 a.sens]) hp (j := 1) rfl, row_cell (l := [q, .int .i64 c.sens]) hq (j := 1) rfl, (Array.getElem?_eq_some_iff.1 hr).1, hl, hh⟩

theorem Rg.below {W W' : World} {rb lb hb : Nat} {a c : Lvd} (h : Rg W rb lb hb a c) (hb' : Below W.heap.size W W') : Rg W' rb lb hb a c :=
  ⟨(hb'.cell (p := ⟨rb, 0, none⟩) h.lt).trans h.c0, (hb'.cell (p := ⟨rb, 1, none⟩) h.lt).trans h.c1, (hb'.cell (p := ⟨lb, 1, none⟩) (LvAt.lt h.low)).trans h.p1, (hb'.cell (p := ⟨hb, 1, none⟩) (LvAt.lt h.high)).trans h.q1,
    Nat.lt_of_lt_of_le h.lt hb'.size, LvAt.below h.low hb', LvAt.below h.high hb'⟩

/-- a level's first cell: whether it has a bitset -/
theorem lv_cats {W : World} {lb : Nat} {a : Lvd} (h : LvAt' W lb a) : (a.has = false ∧ W.cell? ⟨lb, 0, none⟩ = some (.pointer none) ∧ ∀ x, ¬ a.P x) ∨ (a.has = true ∧ ∃ b B ws, W.cell? ⟨lb, 0, none⟩ = some (.pointer (some ⟨b, 0, none⟩)) ∧ BigOwn W b B ws ∧ Bits ws a.P) := by
  rcases h with ⟨h1, h2, h3⟩ | ⟨h1, b, B, ws, h2, h3, h4⟩
  · exact Or.inl ⟨h1, row_cell (l := [.pointer none, .int .i64 a.sens]) h2 (j := 0) rfl, h3⟩
  · exact Or.inr ⟨h1, b, B, ws, row_cell (l := [.pointer (some ⟨b, 0, none⟩), .int .i64 a.sens]) h2 (j := 0) rfl, h3, h4⟩

/-- a level is as it was where another level's block changes -/
theorem LvAt.butLv {W W' : World} {lb sens : Nat} {has : Bool} {P : Nat → Prop} (h : LvAt W lb sens has P) {a : Nat} {cs : Array Value} (ha : W.heap[a]? = some (.cells cs 86 (0, 0))) (hne : lb ≠ a) (hk : ∀ k, k < W.heap.size → k ≠ a → W'.heap[k]? = W.heap[k]?) : LvAt W' lb sens has P := by
  have hlt := h.lt
  rcases h with ⟨h1, h2, h3⟩ | ⟨h1, b, B, ws, h2, h3, h4⟩
  · exact Or.inl ⟨h1, (hk lb hlt hne).trans h2, h3⟩
  · exact Or.inr ⟨h1, b, B, ws, (hk lb hlt hne).trans h2, h3.but ha (by decide) (by decide) hk, h4⟩

/-- the three new blocks: two levels and their range -/
structure Gl (V W : World) (s1 s2 : Nat) : Prop where
  below : Below V.heap.size V W
  r0 : W.heap[V.heap.size]? = some (.cells #[.pointer none, .int .i64 s1] 86 (0, 0))
  r1 : W.heap[V.heap.size + 1]? = some (.cells #[.pointer none, .int .i64 s2] 86 (0, 0))
  r2 : W.heap[V.heap.size + 1 + 1]? = some (.cells #[.pointer (some ⟨V.heap.size, 0, none⟩), .pointer (some ⟨V.heap.size + 1, 0, none⟩)] 92 (0, 0))

theorem Gl.new (V : World) : Gl V (((V.alloc (.cells #[.pointer none, .int .i64 0] 86)).alloc (.cells #[.pointer none, .int .i64 0] 86)).alloc (.cells #[.pointer (some ⟨V.heap.size, 0, none⟩), .pointer (some ⟨V.heap.size + 1, 0, none⟩)] 92)) 0 0 := by
  refine ⟨(((Below.refl _ _).alloc (Nat.le_refl _) _).alloc (by simp) _).alloc (by simp; omega) _, ?_, ?_, ?_⟩
  · rw [Below.heap_alloc _ _ _ (by simp; omega), Below.heap_alloc _ _ _ (by simp)]; exact heap_alloc_new _ _
  · rw [Below.heap_alloc _ _ _ (by simp)]
    have h := heap_alloc_new (V.alloc (.cells #[.pointer none, .int .i64 0] 86)) (.cells #[.pointer none, .int .i64 0] 86)
    simpa using h
  · have h := heap_alloc_new ((V.alloc (.cells #[.pointer none, .int .i64 0] 86)).alloc (.cells #[.pointer none, .int .i64 0] 86)) (.cells #[.pointer (some ⟨V.heap.size, 0, none⟩), .pointer (some ⟨V.heap.size + 1, 0, none⟩)] 92)
    simpa using h

theorem Gl.drew {V W : World} {s1 s2 : Nat} (h : Gl V W s1 s2) : Gl V W.drew s1 s2 := ⟨h.below.drew, h.r0, h.r1, h.r2⟩
theorem Gl.set0 {V W : World} {s1 s2 : Nat} (h : Gl V W s1 s2) (n : Nat) : Gl V (W.setCell ⟨V.heap.size, 1, none⟩ (.int .i64 n)) n s2 := by
  refine ⟨h.below.setCell (Nat.le_refl _) _, ?_, ?_, ?_⟩
  · rw [heap_setCell_same _ _ _ _ _ _ h.r0]; rfl
  · rw [Below.heap_setCell _ _ _ _ (by simp <;> omega)]; exact h.r1
  · rw [Below.heap_setCell _ _ _ _ (by simp <;> omega)]; exact h.r2
theorem Gl.set1 {V W : World} {s1 s2 : Nat} (h : Gl V W s1 s2) (n : Nat) : Gl V (W.setCell ⟨V.heap.size + 1, 1, none⟩ (.int .i64 n)) s1 n := by
  refine ⟨h.below.setCell (Nat.le_succ _) _, ?_, ?_, ?_⟩
  · rw [Below.heap_setCell _ _ _ _ (by simp <;> omega)]; exact h.r0
  · rw [heap_setCell_same _ _ _ _ _ _ h.r1]; rfl
  · rw [Below.heap_setCell _ _ _ _ (by simp <;> omega)]; exact h.r2

theorem setCell_size' (W : World) (a : Addr) (u : Value) : (W.setCell a u).heap.size = W.heap.size := by simp [World.setCell]

/-- what a level's block holds behind And -/
theorem and_lv {W w' : World} {m s B : Nat} {x y ws : List Nat} {a a' : Lvd} (hr : W.heap[m]? = some (.cells #[.pointer none, .int .i64 s] 86 (0, 0))) (ha : a.has = true) (ha' : a'.has = true) (hx : Bits x a.P) (hy : Bits y a'.P)
    (hB : B = ((W.setCell ⟨m, 0, none⟩ (.pointer (some ⟨W.heap.size, 0, none⟩))).alloc (.cells #[.bool false, .slice none 0 0] 99)).heap.size) (ho : BigOwn w' W.heap.size B ws) (hand : AndOf x y ws)
    (hb : BelowX B W.heap.size ((W.setCell ⟨m, 0, none⟩ (.pointer (some ⟨W.heap.size, 0, none⟩))).alloc (.cells #[.bool false, .slice none 0 0] 99)) w') :
    LvAt' w' m (both s a a') ∧ BelowX W.heap.size m W w' := by
  have hm := (Array.getElem?_eq_some_iff.1 hr).1
  have hB1 : B = W.heap.size + 1 := by rw [hB]; simp [setCell_size']
  have e1 := heap_setCell_same W m 0 _ _ (.pointer (some ⟨W.heap.size, 0, none⟩)) hr
  have e2 : ((W.setCell ⟨m, 0, none⟩ (.pointer (some ⟨W.heap.size, 0, none⟩))).alloc (.cells #[.bool false, .slice none 0 0] 99)).heap[m]? = some (.cells #[.pointer (some ⟨W.heap.size, 0, none⟩), .int .i64 s] 86 (0, 0)) := by
    rw [Below.heap_alloc _ _ _ (by rw [setCell_size']; exact hm)]; exact e1
  refine ⟨Or.inr ⟨(by show (a.has && a'.has) = true; rw [ha, ha']; rfl), W.heap.size, B, ws, ?_, ho, fun k => ?_⟩, ⟨?_, ?_, ?_, ?_, ?_⟩⟩
  · rw [hb.block m (by omega) (by omega), e2]; rfl
  · show CL.tb ws k = true ↔ a.P k ∧ a'.P k
    rw [hand.tb k, Bool.and_eq_true]
    exact and_congr (hx k) (hy k)
  · exact hb.os
  · exact hb.tape
  · exact hb.output
  · have := hb.size; simp [setCell_size'] at this; omega
  · intro k hk hkm
    rw [hb.block k (by omega) (by omega), Below.heap_alloc _ _ _ (by rw [setCell_size']; exact hk), Below.heap_setCell _ _ _ _ hkm]
end Go.Proofs.YtaloidnoeafgiaaGreatDoor
