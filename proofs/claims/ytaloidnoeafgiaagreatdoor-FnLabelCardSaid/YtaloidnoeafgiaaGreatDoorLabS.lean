/- labels: their parts, their sizes, where they lie; zzFits3. (The same as in Init2, Init3, Init4, for a seat without options.) -/
import Derived.Test.YtaloidnoeafgiaaGreatDoorCtx
namespace Go.Proofs.YtaloidnoeafgiaaGreatDoor
open Go.RowKit Go.Lib

/-- a label's parts -/
structure Lab where
  u : ByteArray
  r : ByteArray
  t : ByteArray
  l : ByteArray

def Lab.text (x : Lab) : List UInt8 := labT x.u x.r x.t x.l
/-- a label whose parts are short and, but for the level, without colons -/
structure Lab.Ok (x : Lab) : Prop where
  u : (58 : UInt8) ∉ x.u.data.toList
  r : (58 : UInt8) ∉ x.r.data.toList
  t : (58 : UInt8) ∉ x.t.data.toList
  su : x.u.size ≤ 1000
  sr : x.r.size ≤ 1000
  st : x.t.size ≤ 1000
  sl : x.l.size ≤ 1000
/-- sizes alone -/
structure Lab.Small (x : Lab) : Prop where
  su : x.u.size ≤ 1000
  sr : x.r.size ≤ 1000
  st : x.t.size ≤ 1000
  sl : x.l.size ≤ 1000
theorem Lab.Ok.small {x : Lab} (h : x.Ok) : x.Small := ⟨h.su, h.sr, h.st, h.sl⟩
theorem Lab.Small.sized {x : Lab} (h : x.Small) : Sized x.u x.r x.t x.l := by
  obtain ⟨h1, h2, h3, h4⟩ := h
  exact ⟨by omega, by omega, by omega, by omega⟩
/-- the pairs have a label's parts -/
def PartsL (l : Pairs) (x : Lab) : Prop := Parts l x.u x.r x.t x.l

theorem labT_size {x : Lab} (h : x.Small) {s : ByteArray} (hs : s.data.toList = x.text) : 2 ≤ s.size ∧ s.size ≤ 5000 := by
  obtain ⟨h1, h2, h3, h4⟩ := h
  rw [Lib.size_eq, hs]
  simp only [Lab.text, labT, List.length_append, List.length_cons]
  split
  · simp; omega
  · simp; omega

theorem ne_toList {a b : ByteArray} (h : a.data.toList ≠ b.data.toList) : (a.toList == b.toList) = false := by
  rw [ByteArray.toList_eq, ByteArray.toList_eq]
  simpa using h

theorem fits3_any (u r t l : ByteArray) (w : World) :
    Calls Tryz.prog 16 #[labV u r t l] w fun e w' => e = .returned (.bool (decide (u.size ≤ 2147483647 ∧ r.size ≤ 2147483647 ∧ t.size ≤ 2147483647 ∧ l.size ≤ 2147483647))) ∧ Below w.heap.size w w' := by
  have hx := heap_alloc_new w (.cells #[.string u, .string r, .string t, .string l] 45)
  have c0 := row_cell (l := [.string u, .string r, .string t, .string l]) hx (j := 0) rfl
  have c1 := row_cell (l := [.string u, .string r, .string t, .string l]) hx (j := 1) rfl
  have c2 := row_cell (l := [.string u, .string r, .string t, .string l]) hx (j := 2) rfl
  have c3 := row_cell (l := [.string u, .string r, .string t, .string l]) hx (j := 3) rfl
  have HB : Hid (Below w.heap.size w (w.alloc (.cells #[.string u, .string r, .string t, .string l] 45))) := (Below.refl _ _).alloc (Nat.le_refl _) _
  clear hx
  have ret : ∀ b : Bool, (b = decide (u.size ≤ 2147483647 ∧ r.size ≤ 2147483647 ∧ t.size ≤ 2147483647 ∧ l.size ≤ 2147483647)) → Ending.returned (.bool b) = Ending.returned (.bool (decide (u.size ≤ 2147483647 ∧ r.size ≤ 2147483647 ∧ t.size ≤ 2147483647 ∧ l.size ≤ 2147483647))) := fun b h => by rw [h]
  have Ret := Lib.hid ret
  clear ret
  go_enter Tryz.func16, Tryz.ntmps16
  go_wp2_with fail
  all_goals
    go_ret
    exact ⟨Ret.out _ (by first | (symm; apply decide_eq_true; omega) | (symm; apply decide_eq_false; omega)), HB.out⟩

/-- a label's cells -/
abbrev labCs (x : Lab) : List Value := [.string x.u, .string x.r, .string x.t, .string x.l]

/-- block b is a label -/
def LabAt (w : World) (b : Nat) (x : Lab) : Prop := w.heap[b]? = some (.cells (labCs x).toArray 45 (0, 0))

theorem LabAt.set {w : World} {b : Nat} {x : Lab} (h : LabAt w b x) (j : Nat) (v : ByteArray) (y : Lab) (hy : labCs y = (labCs x).set j (.string v)) : LabAt (w.setCell ⟨b, j, none⟩ (.string v)) b y := by
  unfold LabAt at *
  rw [heap_setCell_same _ _ _ _ _ _ h, hy]
  simp

theorem LabAt.other {w : World} {b : Nat} {x : Lab} (h : LabAt w b x) {a : Addr} (ha : b ≠ a.block) (v : Value) : LabAt (w.setCell a v) b x := by
  unfold LabAt at *
  rw [Below.heap_setCell _ _ _ _ ha]; exact h

theorem LabAt.alloc {w : World} {b : Nat} {x : Lab} (h : LabAt w b x) (o : Obj) : LabAt (w.alloc o) b x := by
  unfold LabAt at *
  rw [Below.heap_alloc _ _ _ (Array.getElem?_eq_some_iff.1 h).1]; exact h

theorem LabAt.lt {w : World} {b : Nat} {x : Lab} (h : LabAt w b x) : b < w.heap.size := (Array.getElem?_eq_some_iff.1 h).1

theorem LabAt.below {w w' : World} {b : Nat} {x : Lab} (h : LabAt w b x) (hb : Below w.heap.size w w') : LabAt w' b x := (hb.block b h.lt).trans h

theorem word_ok {s : ByteArray} (h : wordB s = true) : (58 : UInt8) ∉ s.data.toList ∧ s.size < 100 := by
  unfold wordB at h
  simp only [Bool.and_eq_true, decide_eq_true_eq] at h
  refine ⟨fun h1 => ?_, h.2.2⟩
  have := List.all_eq_true.1 h.1 _ h1
  exact absurd this (by decide)

theorem lab_ok {x : Lab} (h : labB x.u x.r x.t x.l = true) : x.Ok := by
  unfold labB at h
  simp only [Bool.and_eq_true, decide_eq_true_eq] at h
  obtain ⟨_, h1, h2, h3, h4⟩ := h
  have e1 := word_ok h1
  have e2 := word_ok h2
  have e3 := word_ok h3
  exact ⟨e1.1, e2.1, e3.1, by omega, by omega, by omega, by omega⟩

theorem own_below {w w' : World} {B e n : Nat} {v : Value} {xs : List Value} (h : w.ownsRow B e 1 v n xs) (hb : Below w.heap.size w w') : w'.ownsRow B e 1 v n xs := by
  refine ⟨h.1, ?_⟩
  rcases h.2 with h' | ⟨g, cap, cur, h1, h2, h3, h4⟩
  · exact Or.inl h'
  · exact Or.inr ⟨g, cap, cur, h1, h2, (hb.block g (Array.getElem?_eq_some_iff.1 h3).1).trans h3, h4⟩

theorem LabAt.grown {w w' : World} {b : Nat} {x : Lab} {row : Option Nat} (h : LabAt w b x) (hg : w.grownBy w' row) (hr : ∀ k, row = some k → b < k) : LabAt w' b x :=
  (hg.block b h.lt (fun e => Nat.lt_irrefl _ (hr b e.symm))).trans h

theorem size0 {d : ByteArray} (h : d.size = 0) : d = ⟨#[]⟩ := bytes_ext (List.eq_nil_of_length_eq_zero (by rw [← Lib.size_eq]; exact h))
theorem parts_ctx (x : Lab) : PartsL (ctxL x.u x.r x.t x.l) x := parts_ctxL _ _ _ _
end Go.Proofs.YtaloidnoeafgiaaGreatDoor
