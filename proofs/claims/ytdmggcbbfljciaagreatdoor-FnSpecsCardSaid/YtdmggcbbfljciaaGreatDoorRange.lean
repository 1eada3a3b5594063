/- rangeStrToMLSRange: a range of a text. -/
import Derived.Test.YtdmggcbbfljciaaGreatDoorLevel
namespace Go.Proofs.YtdmggcbbfljciaaGreatDoor
open Go.RowKit

def tokP (p : List (Nat × Nat)) : Nat → Prop := fun x => ∃ t ∈ p, CL.inTok x t

theorem level_any (lb : Nat) (s : ByteArray) (sens : Nat) (p : List (Nat × Nat)) (hok : ∀ t ∈ p, CL.tokOk t) (hs : s.data.toList = CL.lvT sens p) (hsens : sens ≤ 9999) (hl : s.size ≤ 900000) (w : World) (hlb : w.heap[lb]? = some (.cells #[.pointer none, .int .i64 0] 143 (0, 0))) :
    Calls Tryz.prog 80 #[.pointer (some ⟨lb, 0, none⟩), .string s] w fun e w' => e = .returned .nilIface ∧ LvAt w' lb sens (!p.isEmpty) (tokP p) ∧ BelowX w.heap.size lb w w' := by
  by_cases hp : p = []
  · subst hp
    refine (level_none lb s sens hs hsens hl w hlb).mono ?_
    rintro e w' ⟨rfl, h1, h2⟩
    exact ⟨rfl, h1.mono (by intro x; simp [tokP]), h2⟩
  · refine (level_some lb s sens p hp hok hs hsens hl w hlb).mono ?_
    rintro e w' ⟨rfl, h1, h2⟩
    have e : (!p.isEmpty) = true := by cases p with
      | nil => exact absurd rfl hp
      | cons a r => rfl
    rw [e]
    exact ⟨rfl, h1, h2⟩

/-- a level's data -/
structure Lvd where
  sens : Nat
  has : Bool
  P : Nat → Prop

def LvAt' (W : World) (lb : Nat) (l : Lvd) : Prop := LvAt W lb l.sens l.has l.P
def lvd (sens : Nat) (p : List (Nat × Nat)) : Lvd := ⟨sens, !p.isEmpty, tokP p⟩

/-- block rb is a range -/
def RgAt (W : World) (rb : Nat) (l h : Lvd) : Prop := ∃ lb hb, W.heap[rb]? = some (.cells #[.pointer (some ⟨lb, 0, none⟩), .pointer (some ⟨hb, 0, none⟩)] 140 (0, 0)) ∧ LvAt' W lb l ∧ LvAt' W hb h

theorem RgAt.below {W W' : World} {rb : Nat} {l h : Lvd} (hr : RgAt W rb l h) (hb : Below W.heap.size W W') : RgAt W' rb l h := by
  obtain ⟨lb, hb', h1, h2, h3⟩ := hr
  exact ⟨lb, hb', (hb.block rb (Array.getElem?_eq_some_iff.1 h1).1).trans h1, LvAt.below h2 hb, LvAt.below h3 hb⟩

theorem BigOwn.other {W : World} {b B : Nat} {ws : List Nat} (h : BigOwn W b B ws) {a T o : Nat} {cs : Array Value} (ha : W.heap[a]? = some (.cells cs T (0, 0))) (h1 : T ≠ 177) (h2 : T ≠ 207) (u : Value) : BigOwn (W.setCell ⟨a, o, none⟩ u) b B ws := by
  obtain ⟨h0, v, hv, ho, h3, h4⟩ := h
  have hb : b ≠ a := by
    intro e; subst e; rw [hv] at ha; simp at ha; exact h1 ha.2.symm
  refine ⟨h0, v, by rw [Below.heap_setCell _ _ _ _ hb]; exact hv, ?_, h3, h4⟩
  obtain ⟨h5, h6⟩ := ho
  refine ⟨h5, ?_⟩
  rcases h6 with h6 | ⟨g, cap, cur, r1, r2, r3, r4⟩
  · exact Or.inl h6
  · have hg : g ≠ a := by
      intro e; subst e; rw [r3] at ha; simp at ha; exact h2 ha.2.symm
    exact Or.inr ⟨g, cap, cur, r1, r2, by rw [Below.heap_setCell _ _ _ _ hg]; exact r3, r4⟩

theorem LvAt.other {W : World} {lb sens : Nat} {has : Bool} {P : Nat → Prop} (h : LvAt W lb sens has P) {a o : Nat} {cs : Array Value} (ha : W.heap[a]? = some (.cells cs 140 (0, 0))) (u : Value) : LvAt (W.setCell ⟨a, o, none⟩ u) lb sens has P := by
  rcases h with ⟨h1, h2, h3⟩ | ⟨h1, b, B, ws, h2, h3, h4⟩
  · have hb : lb ≠ a := by
      intro e; subst e; rw [h2] at ha; simp at ha
    exact Or.inl ⟨h1, by rw [Below.heap_setCell _ _ _ _ hb]; exact h2, h3⟩
  · have hb : lb ≠ a := by
      intro e; subst e; rw [h2] at ha; simp at ha
    exact Or.inr ⟨h1, b, B, ws, by rw [Below.heap_setCell _ _ _ _ hb]; exact h2, h3.other ha (by decide) (by decide) u, h4⟩

theorem BigOwn.but {W W' : World} {b B : Nat} {ws : List Nat} (h : BigOwn W b B ws) {a T : Nat} {cs : Array Value} (ha : W.heap[a]? = some (.cells cs T (0, 0))) (h1 : T ≠ 177) (h2 : T ≠ 207) (hk : ∀ k, k < W.heap.size → k ≠ a → W'.heap[k]? = W.heap[k]?) : BigOwn W' b B ws := by
  obtain ⟨h0, v, hv, ho, h3, h4⟩ := h
  have hb : b ≠ a := by
    intro e; subst e; rw [hv] at ha; simp at ha; exact h1 ha.2.symm
  refine ⟨h0, v, (hk b (Array.getElem?_eq_some_iff.1 hv).1 hb).trans hv, ?_, h3, h4⟩
  obtain ⟨h5, h6⟩ := ho
  refine ⟨h5, ?_⟩
  rcases h6 with h6 | ⟨g, cap, cur, r1, r2, r3, r4⟩
  · exact Or.inl h6
  · have hg : g ≠ a := by
      intro e; subst e; rw [r3] at ha; simp at ha; exact h2 ha.2.symm
    exact Or.inr ⟨g, cap, cur, r1, r2, (hk g (Array.getElem?_eq_some_iff.1 r3).1 hg).trans r3, r4⟩

theorem LvAt.but {W W' : World} {lb sens : Nat} {has : Bool} {P : Nat → Prop} (h : LvAt W lb sens has P) {a : Nat} {cs : Array Value} (ha : W.heap[a]? = some (.cells cs 140 (0, 0))) (hk : ∀ k, k < W.heap.size → k ≠ a → W'.heap[k]? = W.heap[k]?) : LvAt W' lb sens has P := by
  rcases h with ⟨h1, h2, h3⟩ | ⟨h1, b, B, ws, h2, h3, h4⟩
  · have hb : lb ≠ a := by
      intro e; subst e; rw [h2] at ha; simp at ha
    exact Or.inl ⟨h1, (hk lb (Array.getElem?_eq_some_iff.1 h2).1 hb).trans h2, h3⟩
  · have hb : lb ≠ a := by
      intro e; subst e; rw [h2] at ha; simp at ha
    exact Or.inr ⟨h1, b, B, ws, (hk lb (Array.getElem?_eq_some_iff.1 h2).1 hb).trans h2, h3.but ha (by decide) (by decide) hk, h4⟩

set_option maxRecDepth 100000 in
set_option maxHeartbeats 1000000 in
theorem range_one (s : ByteArray) (sens : Nat) (p : List (Nat × Nat)) (hok : ∀ t ∈ p, CL.tokOk t) (hs : s.data.toList = CL.lvT sens p) (hsens : sens ≤ 9999) (hl : s.size ≤ 900000) (w : World) :
    Calls Tryz.prog 51 #[.string s] w fun e w' => ∃ rb, e = .returned (.tuple #[.pointer (some ⟨rb, 0, none⟩), .nilIface]) ∧ RgAt w' rb (lvd sens p) (lvd sens p) ∧ Below w.heap.size w w' := by
  have hcm := Lib.hid (cut_miss s 45 (by rw [hs]; exact CL.lvT_no_dash sens p) (by omega))
  have hlv := Lib.hid (fun lb => level_any lb s sens p hok hs hsens hl)
  clear hs hok
  go_enter Tryz.func51, Tryz.ntmps51
  go_wp2_with fail
  refine (hcm.out _).mono ?_
  rintro e w2 ⟨rfl, hb2⟩
  have hsz2 : w.heap.size + 1 ≤ w2.heap.size := by have := hb2.size; simpa using this
  have hr2 : Hid (w2.heap[w.heap.size]? = some (.cells #[.pointer none, .pointer none] 140 (0, 0))) := by
    show _ = _
    rw [hb2.block w.heap.size (by simp)]; exact heap_alloc_new _ _
  have hlvl : Hid ((w2.alloc (.cells #[.pointer none, .int .i64 0] 143)).heap[w2.heap.size]? = some (.cells #[.pointer none, .int .i64 0] 143 (0, 0))) := heap_alloc_new _ _
  have hr3 : Hid ((w2.alloc (.cells #[.pointer none, .int .i64 0] 143)).heap[w.heap.size]? = some (.cells #[.pointer none, .pointer none] 140 (0, 0))) := by
    show _ = _
    rw [Below.heap_alloc _ _ _ (by omega)]; exact hr2.out
  have c0 := row_cell (l := [.pointer none, .pointer none]) hr3.out (j := 0) rfl
  have f0 := row_free (l := [.pointer none, .pointer none]) hr3.out 0
  go_wp2_with fail
  refine (hlv.out w2.heap.size _ ?_).mono ?_
  · rw [Below.heap_setCell _ _ _ _ (by show w2.heap.size ≠ w.heap.size; omega)]; exact hlvl.out
  rintro e w4 ⟨rfl, hl4, hx4⟩
  have hr4 : Hid (w4.heap[w.heap.size]? = some (.cells #[.pointer (some ⟨w2.heap.size, 0, none⟩), .pointer none] 140 (0, 0))) := by
    show _ = _
    rw [hx4.block w.heap.size (by simp [World.setCell]; omega) (by omega), heap_setCell_same _ _ _ _ _ _ hr3.out]; rfl
  have c40 := row_cell (l := [.pointer (some ⟨w2.heap.size, 0, none⟩), .pointer none]) hr4.out (j := 0) rfl
  have c41 := row_cell (l := [.pointer (some ⟨w2.heap.size, 0, none⟩), .pointer none]) hr4.out (j := 1) rfl
  have f41 := row_free (l := [.pointer (some ⟨w2.heap.size, 0, none⟩), .pointer none]) hr4.out 1
  have Hbel : Hid (Below w.heap.size w w4) := by
    have h1 : Below w.heap.size w w2 := ((Below.refl _ _).alloc (Nat.le_refl _) _).trans (hb2.mono (by simp))
    exact ((h1.alloc (by omega) _).setCell (Nat.le_refl _) _).trans (hx4.below (by omega) (by simp [World.setCell]; omega))
  go_wp2_with fail
  go_ret2
  have hr5 := heap_setCell_same w4 w.heap.size 1 _ _ (.pointer (some ⟨w2.heap.size, 0, none⟩)) hr4.out
  have hl5 := hl4.other (o := 1) hr4.out (.pointer (some ⟨w2.heap.size, 0, none⟩))
  exact ⟨_, rfl, ⟨w2.heap.size, w2.heap.size, by rw [hr5]; rfl, hl5, hl5⟩, Hbel.out.setCell (Nat.le_refl _) _⟩

set_option maxRecDepth 100000 in
set_option maxHeartbeats 2000000 in
theorem range_two (s : ByteArray) (sens : Nat) (p : List (Nat × Nat)) (sens' : Nat) (p' : List (Nat × Nat)) (hok : ∀ t ∈ p, CL.tokOk t) (hok' : ∀ t ∈ p', CL.tokOk t) (hs : s.data.toList = CL.lvT sens p ++ 45 :: CL.lvT sens' p') (hsens : sens ≤ 9999) (hsens' : sens' ≤ 9999) (hl : s.size ≤ 900000) (w : World) :
    Calls Tryz.prog 51 #[.string s] w fun e w' => ∃ rb, e = .returned (.tuple #[.pointer (some ⟨rb, 0, none⟩), .nilIface]) ∧ RgAt w' rb (lvd sens p) (lvd sens' p') ∧ Below w.heap.size w w' := by
  have hcm := Lib.hid (cut_hit s 45 _ _ hs (CL.lvT_no_dash sens p) (by omega))
  have hss : s.size = (CL.lvT sens p).length + 1 + (CL.lvT sens' p').length := by rw [Lib.size_eq, hs]; simp; omega
  have hl1 : (CL.lvT sens p).length ≤ 900000 := by omega
  have hl2 : (CL.lvT sens' p').length ≤ 900000 := by omega
  have Hok : Hid (∀ t ∈ p, CL.tokOk t) := hok
  have Hok' : Hid (∀ t ∈ p', CL.tokOk t) := hok'
  clear hs hok hok' hss
  go_enter Tryz.func51, Tryz.ntmps51
  go_wp2_with fail
  refine (hcm.out _).mono ?_
  rintro e w2 ⟨r1, r2, rfl, hr1, hr2s, hb2⟩
  have hlv := Lib.hid (fun lb => level_any lb r1 sens p Hok.out hr1.out hsens (by rw [Lib.size_eq, hr1.out]; exact hl1))
  have hlv' := Lib.hid (fun lb => level_any lb r2 sens' p' Hok'.out hr2s.out hsens' (by rw [Lib.size_eq, hr2s.out]; exact hl2))
  have hsz2 : w.heap.size + 1 ≤ w2.heap.size := by have := hb2.size; simpa using this
  have hr2 : Hid (w2.heap[w.heap.size]? = some (.cells #[.pointer none, .pointer none] 140 (0, 0))) := by
    show _ = _
    rw [hb2.block w.heap.size (by simp)]; exact heap_alloc_new _ _
  have hlvl : Hid ((w2.alloc (.cells #[.pointer none, .int .i64 0] 143)).heap[w2.heap.size]? = some (.cells #[.pointer none, .int .i64 0] 143 (0, 0))) := heap_alloc_new _ _
  have hr3 : Hid ((w2.alloc (.cells #[.pointer none, .int .i64 0] 143)).heap[w.heap.size]? = some (.cells #[.pointer none, .pointer none] 140 (0, 0))) := by
    show _ = _
    rw [Below.heap_alloc _ _ _ (by omega)]; exact hr2.out
  have c0 := row_cell (l := [.pointer none, .pointer none]) hr3.out (j := 0) rfl
  have f0 := row_free (l := [.pointer none, .pointer none]) hr3.out 0
  go_wp2_with fail
  refine (hlv.out w2.heap.size _ ?_).mono ?_
  · rw [Below.heap_setCell _ _ _ _ (by show w2.heap.size ≠ w.heap.size; omega)]; exact hlvl.out
  rintro e w4 ⟨rfl, hl4, hx4⟩
  have hsz4 : w2.heap.size + 1 ≤ w4.heap.size := by have := hx4.size; simpa [World.setCell] using this
  have hr4 : Hid (w4.heap[w.heap.size]? = some (.cells #[.pointer (some ⟨w2.heap.size, 0, none⟩), .pointer none] 140 (0, 0))) := by
    show _ = _
    rw [hx4.block w.heap.size (by simp [World.setCell]; omega) (by omega), heap_setCell_same _ _ _ _ _ _ hr3.out]; rfl
  have Hbel : Hid (Below w.heap.size w w4) := by
    have h1 : Below w.heap.size w w2 := ((Below.refl _ _).alloc (Nat.le_refl _) _).trans (hb2.mono (by simp))
    exact ((h1.alloc (by omega) _).setCell (Nat.le_refl _) _).trans (hx4.below (by omega) (by simp [World.setCell]; omega))
  clear c0 f0 hr3 hr2 hlvl hb2
  have hlvl : Hid ((w4.alloc (.cells #[.pointer none, .int .i64 0] 143)).heap[w4.heap.size]? = some (.cells #[.pointer none, .int .i64 0] 143 (0, 0))) := heap_alloc_new _ _
  have hr5 : Hid ((w4.alloc (.cells #[.pointer none, .int .i64 0] 143)).heap[w.heap.size]? = some (.cells #[.pointer (some ⟨w2.heap.size, 0, none⟩), .pointer none] 140 (0, 0))) := by
    show _ = _
    rw [Below.heap_alloc _ _ _ (by omega)]; exact hr4.out
  have c51 := row_cell (l := [.pointer (some ⟨w2.heap.size, 0, none⟩), .pointer none]) hr5.out (j := 1) rfl
  have f51 := row_free (l := [.pointer (some ⟨w2.heap.size, 0, none⟩), .pointer none]) hr5.out 1
  go_wp2_with fail
  refine (hlv'.out w4.heap.size _ ?_).mono ?_
  · rw [Below.heap_setCell _ _ _ _ (by show w4.heap.size ≠ w.heap.size; omega)]; exact hlvl.out
  rintro e w6 ⟨rfl, hl6, hx6⟩
  go_wp2_with fail
  go_ret2
  have hsz6 : w4.heap.size + 1 ≤ w6.heap.size := by have := hx6.size; simpa [World.setCell] using this
  have hr6 : w6.heap[w.heap.size]? = some (.cells #[.pointer (some ⟨w2.heap.size, 0, none⟩), .pointer (some ⟨w4.heap.size, 0, none⟩)] 140 (0, 0)) := by
    rw [hx6.block w.heap.size (by simp [World.setCell]; omega) (by omega), heap_setCell_same _ _ _ _ _ _ hr5.out]; rfl
  have hk6 : ∀ k, k < w4.heap.size → k ≠ w.heap.size → w6.heap[k]? = w4.heap[k]? := by
    intro k hk hkw
    rw [hx6.block k (by simp [World.setCell]; omega) (by omega), Below.heap_setCell _ _ _ _ hkw, Below.heap_alloc _ _ _ hk]
  refine ⟨_, rfl, ⟨w2.heap.size, w4.heap.size, hr6, hl4.but hr4.out hk6, hl6⟩, ?_⟩
  exact Hbel.out.trans ((((Below.refl w.heap.size w4).alloc (by omega) _).setCell (Nat.le_refl _) _).trans (hx6.below (by omega) (by simp [World.setCell]; omega)))
end Go.Proofs.YtdmggcbbfljciaaGreatDoor
