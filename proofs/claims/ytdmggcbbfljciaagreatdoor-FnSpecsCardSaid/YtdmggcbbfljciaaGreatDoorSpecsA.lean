/- the bindings of each port: a map whose values are rows of the call's own; what one more mapping makes of it. -/
import Derived.Test.YtdmggcbbfljciaaGreatDoorPubB
import Derived.Test.YtdmggcbbfljciaaGreatDoorMap2
import Derived.Deep.AppendLies
import Derived.Lib.OwnKind
import Derived.Maps.Own
import Derived.Maps.OwnOps
import Derived.Test.YtdmggcbbfljciaaGreatDoorShelfS
import Derived.Test.YtdmggcbbfljciaaGreatDoorCats
import Derived.Test.YtdmggcbbfljciaaGreatDoorWorks
import Derived.Sort.OwnSorted
import Derived.Test.YtdmggcbbfljciaaGreatDoorISpec
import Derived.Deep.LoopGhost
import Derived.Deep.RegionHeld3
namespace Go.Proofs.YtdmggcbbfljciaaGreatDoor
open Go.RowKit Go.Lib

/-- the mappings of one port -/
def sel (k : ByteArray) (all : List M3) : List M3 := all.filter fun m => decide (tx m.1 = k)

theorem sel_snoc_same (k : ByteArray) (all : List M3) (m : M3) (h : tx m.1 = k) : sel k (all ++ [m]) = sel k all ++ [m] := by
  unfold sel; rw [List.filter_append]; simp [h]
theorem sel_snoc_other (k : ByteArray) (all : List M3) (m : M3) (h : tx m.1 ≠ k) : sel k (all ++ [m]) = sel k all := by
  unfold sel; rw [List.filter_append]; simp [h]
theorem sel_len (k : ByteArray) (all : List M3) : (sel k all).length ≤ all.length := List.length_filter_le _ _
theorem sel_nil {k : ByteArray} {all : List M3} (h : ¬ ∃ m ∈ all, tx m.1 = k) : sel k all = [] := by
  unfold sel
  rw [List.filter_eq_nil_iff]
  intro m hm e
  exact h ⟨m, hm, by simpa using e⟩
theorem sel_pos {k : ByteArray} {all : List M3} (h : ∃ m ∈ all, tx m.1 = k) : 0 < (sel k all).length := by
  obtain ⟨m, hm, e⟩ := h
  exact List.length_pos_of_mem (List.mem_filter.2 ⟨hm, by simpa using e⟩)
theorem sel_key {k : ByteArray} {all : List M3} {m : M3} (h : m ∈ sel k all) : tx m.1 = k := by
  have := (List.mem_filter.1 h).2
  simpa using this

/-- the cells of a row of bindings -/
def m2V (l : List M3) : List Value := l.flatMap fun m => [.string (tx m.2.1), .string (tx m.2.2)]
theorem m2V_length (l : List M3) : (m2V l).length = l.length * 2 := by
  induction l with
  | nil => rfl
  | cons a r ih => simp only [m2V, List.flatMap_cons, List.length_append, List.length_cons, List.length_nil] at *; omega
theorem m2V_snoc (l : List M3) (m : M3) : m2V (l ++ [m]) = m2V l ++ [.string (tx m.2.1), .string (tx m.2.2)] := by simp [m2V]
theorem m2V_at (l : List M3) (j : Nat) (hj : j < l.length) : (m2V l)[j * 2]? = some (.string (tx (l.getD j ([], [], [])).2.1)) ∧ (m2V l)[j * 2 + 1]? = some (.string (tx (l.getD j ([], [], [])).2.2)) := by
  induction l generalizing j with
  | nil => simp at hj
  | cons a r ih =>
    match j with
    | 0 => simp [m2V, List.getD]
    | j + 1 =>
      have h := ih j (by simp at hj; omega)
      have e : m2V (a :: r) = [.string (tx a.2.1), .string (tx a.2.2)] ++ m2V r := by simp [m2V]
      have e1 : (j + 1) * 2 = j * 2 + 2 := by omega
      have e2 : (j + 1) * 2 + 1 = j * 2 + 1 + 2 := by omega
      rw [e, e1]
      refine ⟨?_, ?_⟩
      · rw [List.getElem?_append_right (by simp)]
        simpa [List.getD] using h.1
      · rw [List.getElem?_append_right (by simp)]
        simpa [List.getD] using h.2

abbrev tyB : TypeId := 65

/-- the bindings' map tells of these mappings: its keys, the row of each, no two in one block -/
structure Binds (B : Nat) (w : World) (lb : Pairs) (all : List M3) : Prop where
  keys : ∀ k, (lk lb k).isSome = true ↔ ∃ m ∈ all, tx m.1 = k
  rows : ∀ k v, lk lb k = some v → w.ownsRow B tyB 2 v (sel k all).length (m2V (sel k all))
  apart : ∀ k v k' v', lk lb k = some v → lk lb k' = some v' → k ≠ k' → v.ownBlock ≠ v'.ownBlock

theorem Binds.nil (B : Nat) (w : World) : Binds B w [] [] := ⟨fun k => by simp [lk_nil], fun k v h => (by rw [lk_nil] at h; cases h), fun k v k' v' h => (by rw [lk_nil] at h; cases h)⟩

/-- the row at a key, or nothing -/
theorem Binds.old {B : Nat} {w : World} {lb : Pairs} {all : List M3} (h : Binds B w lb all) (k : ByteArray) : w.ownsRow B tyB 2 ((lk lb k).getD (.slice none 0 0)) (sel k all).length (m2V (sel k all)) := by
  cases e : lk lb k with
  | some v => exact h.rows k v e
  | none =>
    have h0 : sel k all = [] := sel_nil (fun hk => by have := (h.keys k).2 hk; rw [e] at this; cases this)
    rw [h0]
    exact World.ownsRow_nil _ _ _ _

theorem Binds.kept {B : Nat} {w w' : World} {lb : Pairs} {all : List M3} {row : Option Nat} (h : Binds B w lb all) (hg : w.grownBy w' row) (hr : ∀ k, row = some k → k < B) : Binds B w' lb all :=
  ⟨h.keys, fun k v e => (h.rows k v e).kept hg (by
    cases hv : v.ownBlock with
    | none => exact Or.inl rfl
    | some b => right; intro e'; have h1 := ((h.rows k v e).lt b hv).1; have := hr b e'.symm; omega), h.apart⟩

theorem Binds.below {B : Nat} {w w' : World} {lb : Pairs} {all : List M3} (h : Binds B w lb all) (hb : Below w.heap.size w w') : Binds B w' lb all :=
  ⟨h.keys, fun k v e => own_below3 (h.rows k v e) hb, h.apart⟩

theorem Binds.block {B : Nat} {w : World} {lb : Pairs} {all : List M3} (h : Binds B w lb all) {k : ByteArray} {v : Value} (e : lk lb k = some v) : ∃ g c, v = .slice (some ⟨g, 0, none⟩) (sel k all).length c ∧ B ≤ g ∧ g < w.heap.size :=
  (h.rows k v e).form (sel_pos ((h.keys k).1 (by rw [e]; rfl)))

theorem Binds.put {B : Nat} {w w9 : World} {lb : Pairs} {all : List M3} (h : Binds B w lb all) (m : M3) (k : ByteArray) (hk : tx m.1 = k) (g c H : Nat) (hH : w.heap.size ≤ H)
    (hown : w9.ownsRow B tyB 2 (.slice (some ⟨g, 0, none⟩) ((sel k all).length + 1) c) ((sel k all).length + 1) (m2V (sel k all) ++ [.string (tx m.2.1), .string (tx m.2.2)]))
    (hg : w.grownBy w9 ((lk lb k).getD (.slice none 0 0)).ownBlock) (hat : ((lk lb k).getD (.slice none 0 0)).ownBlock = some g ∨ g = H) :
    Binds B w9 (putP lb k (.slice (some ⟨g, 0, none⟩) ((sel k all).length + 1) c)) (all ++ [m]) := by
  have far : ∀ k' v', lk lb k' = some v' → k' ≠ k → v'.ownBlock ≠ ((lk lb k).getD (.slice none 0 0)).ownBlock ∧ v'.ownBlock ≠ some g := by
    intro k' v' e' hne
    obtain ⟨g', c', rfl, hB, hlt⟩ := h.block e'
    have h1 : (Value.slice (some ⟨g', 0, none⟩) (sel k' all).length c').ownBlock ≠ ((lk lb k).getD (.slice none 0 0)).ownBlock := by
      cases e : lk lb k with
      | none => intro hx; cases hx
      | some v => exact h.apart _ _ _ _ e' e hne
    refine ⟨h1, ?_⟩
    rcases hat with hat | hat
    · rw [← hat]; exact h1
    · intro hx
      have : g' = g := Option.some.inj hx
      omega
  refine ⟨?_, ?_, ?_⟩
  · intro k'
    rw [lk_put]
    by_cases e : k' = k
    · rw [if_pos e]
      simp only [Option.isSome_some, true_iff]
      exact ⟨m, by simp, by rw [hk, e]⟩
    · rw [if_neg e, h.keys]
      constructor
      · rintro ⟨x, hx, hxk⟩; exact ⟨x, List.mem_append_left _ hx, hxk⟩
      · rintro ⟨x, hx, hxk⟩
        rcases List.mem_append.1 hx with hx | hx
        · exact ⟨x, hx, hxk⟩
        · simp at hx; subst hx; exact absurd (hxk.symm.trans hk) e
  · intro k' v' hv
    rw [lk_put] at hv
    by_cases e : k' = k
    · rw [if_pos e] at hv
      obtain rfl := Option.some.inj hv
      subst e
      rw [sel_snoc_same _ _ _ hk, m2V_snoc, List.length_append]
      exact hown
    · rw [if_neg e] at hv
      rw [sel_snoc_other _ _ _ (fun e' => e (e'.symm.trans hk))]
      exact (h.rows k' v' hv).kept hg (Or.inr (far k' v' hv e).1)
  · intro k1 v1 k2 v2 h1 h2 hne
    rw [lk_put] at h1 h2
    by_cases e1 : k1 = k
    · have e2 : k2 ≠ k := fun e => hne (e1.trans e.symm)
      rw [if_pos e1] at h1
      rw [if_neg e2] at h2
      obtain rfl := Option.some.inj h1
      exact fun hx => (far k2 v2 h2 e2).2 hx.symm
    · rw [if_neg e1] at h1
      by_cases e2 : k2 = k
      · rw [if_pos e2] at h2
        obtain rfl := Option.some.inj h2
        exact (far k1 v1 h1 e1).2
      · rw [if_neg e2] at h2
        exact h.apart _ _ _ _ h1 h2 hne

/-- the exposed ports' map tells of these mappings -/
def Keys (lx : Pairs) (all : List M3) : Prop := ∀ k, (lk lx k).isSome = true ↔ ∃ m ∈ all, tx m.1 = k
theorem Keys.nil : Keys [] [] := fun k => by simp [lk_nil]
theorem Keys.put {lx : Pairs} {all : List M3} (h : Keys lx all) (m : M3) (v : Value) : Keys (putP lx (tx m.1) v) (all ++ [m]) := by
  intro k
  rw [lk_put]
  by_cases e : k = tx m.1
  · rw [if_pos e]
    simp only [Option.isSome_some, true_iff]
    exact ⟨m, by simp, e.symm⟩
  · rw [if_neg e, h k]
    constructor
    · rintro ⟨x, hx, hxk⟩; exact ⟨x, List.mem_append_left _ hx, hxk⟩
    · rintro ⟨x, hx, hxk⟩
      rcases List.mem_append.1 hx with hx | hx
      · exact ⟨x, hx, hxk⟩
      · simp at hx; subst hx; exact absurd hxk.symm e
theorem Keys.same {lx : Pairs} {all : List M3} (h : Keys lx all) (m : M3) (hs : (lk lx (tx m.1)).isSome = true) : Keys lx (all ++ [m]) := by
  intro k
  rw [h k]
  constructor
  · rintro ⟨x, hx, hxk⟩; exact ⟨x, List.mem_append_left _ hx, hxk⟩
  · rintro ⟨x, hx, hxk⟩
    rcases List.mem_append.1 hx with hx | hx
    · exact ⟨x, hx, hxk⟩
    · simp at hx; subst hx
      exact (h k).1 (by rw [← hxk]; exact hs)

theorem lk_isSome_iff (l : Pairs) (k : ByteArray) : (lk l k).isSome = true ↔ k ∈ l.map (·.1) := by
  induction l with
  | nil => simp [lk_nil]
  | cons p r ih =>
    rw [lk_cons, List.map_cons, List.mem_cons]
    by_cases e : p.1 = k
    · simp [e]
    · rw [if_neg e, ih]
      constructor
      · exact Or.inr
      · rintro (h | h)
        · exact absurd h.symm e
        · exact h

/-- the keys that stand in a map of these mappings -/
theorem Keys.mem {lx : Pairs} {all : List M3} (h : Keys lx all) (k : ByteArray) : k ∈ lx.map (·.1) ↔ ∃ m ∈ all, tx m.1 = k := by
  rw [← lk_isSome_iff, h k]
end Go.Proofs.YtdmggcbbfljciaaGreatDoor

/- ParsePortSpecs at proper specifications. -/
namespace Go.Proofs.YtdmggcbbfljciaaGreatDoor
open Go.RowKit Go.Lib Go.MapKept

theorem info65 : (Tryz.prog.info? 65).map (fun i => (i.zero, i.size, i.bytes)) = some (some (.agg #[.string ⟨#[]⟩, .string ⟨#[]⟩]), 2, 32) := by kernel_rfl

theorem cell_two_new (w : World) (x y : Value) (t : TypeId) : ∀ j u, [x, y][j]? = some u → (w.alloc (.cells #[x, y] t)).cell? ((⟨w.heap.size, 0, none⟩ : Addr).add j) = some u := by
  intro j u hj
  have h := heap_alloc_new w (.cells [x, y].toArray t)
  match j, hj with
  | 0, hj => simp at hj; subst hj; exact row_cell (l := [x, y]) h (j := 0) rfl
  | 1, hj => simp at hj; subst hj; exact row_cell (l := [x, y]) h (j := 1) rfl

theorem cell_two_at (w : World) (x y : Value) (t : TypeId) (b : Nat) (hb : b = w.heap.size) : ∀ j u, [x, y][j]? = some u → (w.alloc (.cells #[x, y] t)).cell? ((⟨b, 0, none⟩ : Addr).add j) = some u := by
  subst hb; exact cell_two_new w x y t

theorem two_str (x y : ByteArray) : ∀ u ∈ [Value.string x, Value.string y], u.oneCell' = true := by
  intro u hu
  simp at hu
  rcases hu with rfl | rfl <;> rfl

theorem below_al2 (w : World) (o o2 : Obj) : Below w.heap.size w ((w.alloc o).alloc o2) := ((Below.refl _ _).alloc (Nat.le_refl _) _).alloc (by simp) _
theorem below_al3 (w : World) (o o2 o3 : Obj) : Below w.heap.size w (((w.alloc o).alloc o2).alloc o3) := (below_al2 w o o2).alloc (by simp; omega) _

theorem zero_unit (w : World) : (zeroValue 94).run Tryz.prog w = .ok (.agg #[]) w := by kernel_rfl
theorem zero_binds (w : World) : (zeroValue 78).run Tryz.prog w = .ok (.slice none 0 0) w := by kernel_rfl

/-- all values of a map are the empty struct -/
def Units (lx : Pairs) : Prop := ∀ k v, lk lx k = some v → v = .agg #[]
theorem Units.put {lx : Pairs} (h : Units lx) (k : ByteArray) : Units (putP lx k (.agg #[])) := by
  intro k' v hv
  rw [lk_put] at hv
  split at hv
  · exact (Option.some.inj hv).symm
  · exact h k' v hv
theorem Units.get {lx : Pairs} (h : Units lx) (k : ByteArray) : (lk lx k).getD (.agg #[]) = .agg #[] := by
  cases e : lk lx k with
  | none => rfl
  | some v => exact h k v e

/-- 'm[k]' with its ok, at the operation -/
theorem wpList_look2 {P : Program} (w : World) {ops : Array Oper} {rest : List Oper} {o : Oper} {a : Act} {Q : Exit → Act → World → Prop}
    (hg : o.guard = none) (m x : Operand) (t : TypeId) (hop : o.op = Op.lookup t m x true) (k e : TypeId) (ht : P.underlying t = some (.map k e)) (hk : P.underlying k = some .string) (z : Value) (hz : (zeroValue e).run P w = .ok z w)
    (b : Nat) (l : Pairs) (hm : a.eval m = .map (some b)) (h : MapAt w b l) (key : ByteArray) (hx : a.eval x = .string key) (v : Value) (hv : (lk l key).getD z = v) (c : Bool) (hc : (lk l key).isSome = c)
    (hK : wpList P ops Q rest (a.put o.dst (.tuple #[v, .bool c])) w) : wpList P ops Q (o :: rest) a w := by
  refine wpList_plain hg fun K' hK' => ?_
  have hrun := h.look ht hk hz key true
  rw [hv, hc] at hrun
  unfold Oper.wp
  simp [execOp, hop, hm, hx, hrun, Result.andThen]
  exact hK' _ _ hK

/-- what the loops of ParsePortSpecs hold -/
structure PS (b : Nat) (w wr : World) (lx lb : Pairs) (all : List M3) : Prop where
  mx : MapAt wr b lx
  mb : MapAt wr (b + 1) lb
  un : Units lx
  kx : Keys lx all
  bi : Binds (b + 2) wr lb all
  be : Below b w wr

/-- no row of the map lies in this block -/
def Far (lb : Pairs) (g : Nat) : Prop := ∀ k v, lk lb k = some v → v.ownBlock ≠ some g

theorem PS.below {b : Nat} {w wr w' : World} {lx lb : Pairs} {all : List M3} (h : PS b w wr lx lb all) (hb : Below wr.heap.size wr w') : PS b w w' lx lb all :=
  ⟨h.mx.below hb h.mx.lt, h.mb.below hb h.mb.lt, h.un, h.kx, h.bi.below hb, h.be.trans (hb.mono (Nat.le_of_lt h.mx.lt))⟩

theorem PS.seen {b : Nat} {w wr : World} {lx lb : Pairs} {all : List M3} (h : PS b w wr lx lb all) {w' : World} {k : ByteArray} (hm : MapAt w' b (putP lx k (.agg #[]))) (hg : wr.grownBy w' (some b)) :
    MapAt w' (b + 1) lb ∧ Binds (b + 2) w' lb all ∧ Below b w w' :=
  ⟨h.mb.kept (hg.block _ h.mb.lt (fun e => by have := Option.some.inj e; omega)), h.bi.kept hg (fun k hk => by cases hk; omega), h.be.grown hg (Nat.le_of_lt h.mx.lt) (fun k hk => by cases hk; exact Nat.le_refl _)⟩

theorem m3_grown {w w' : World} {g : Nat} {l : List M3} {row : Option Nat} (h : M3At w g l) (hg : w.grownBy w' row) (hr : row ≠ some g) : M3At w' g l := by
  intro j hj
  obtain ⟨h0, h1, h2⟩ := h j hj
  have hlt : g < w.heap.size := World.block_lt_of_cell? w _ h0
  have k : ∀ o, w'.cell? ⟨g, o, none⟩ = w.cell? ⟨g, o, none⟩ := fun o => World.cell?_of_block (w := w) (hg.block g hlt (fun e => hr e.symm))
  exact ⟨(k _).trans h0, (k _).trans h1, (k _).trans h2⟩

theorem make_reserved (r : Value) (z : Int) (w : World) (h : r = .int .i64 z) : (Instr.makeMap 72 (some r)).run Tryz.prog w = .ok (.map (some w.heap.size)) (w.alloc (.map #[] 0)) := by
  subst h
  simp [Instr.makeMap, run_underlying Tryz.underlying72, Result.andThen, asInt, newObj]
  rfl

theorem Far.put {lb : Pairs} {g : Nat} (h : Far lb g) (k : ByteArray) {gq c n H : Nat} (hat : ((lk lb k).getD (.slice none 0 0)).ownBlock = some gq ∨ gq = H) (hH : g < H) : Far (putP lb k (.slice (some ⟨gq, 0, none⟩) n c)) g := by
  intro k' v' hv
  rw [lk_put] at hv
  split at hv
  · obtain rfl := Option.some.inj hv
    intro hx
    have hx' : gq = g := Option.some.inj hx
    rcases hat with hat | hat
    · cases e : lk lb k with
      | none => rw [e] at hat; cases hat
      | some v =>
        rw [e] at hat
        exact h k v e (by rw [← hx']; exact hat)
    · omega
  · exact h k' v' hv

theorem old_far {lb : Pairs} {g : Nat} (h : Far lb g) (k : ByteArray) : ((lk lb k).getD (.slice none 0 0)).ownBlock ≠ some g := by
  cases e : lk lb k with
  | none => intro hx; cases hx
  | some v => exact h k v e

theorem Binds.old_ge {B : Nat} {w : World} {lb : Pairs} {all : List M3} (h : Binds B w lb all) (k : ByteArray) : ∀ j, ((lk lb k).getD (.slice none 0 0)).ownBlock = some j → B ≤ j := by
  intro j hj
  cases e : lk lb k with
  | none => rw [e] at hj; cases hj
  | some v =>
    rw [e] at hj
    exact ((h.rows k v e).lt j hj).1

/-- one more binding: the append, then the store into the map -/
theorem PS.step {b : Nat} {w W8 w9 w10 : World} {lx lb : Pairs} {all : List M3} (hmx : MapAt W8 b lx) (hbi : Binds (b + 2) W8 lb all) (hbe : Below b w W8) (m : M3) {g c : Nat}
    (hown : w9.ownsRow (b + 2) tyB 2 (.slice (some ⟨g, 0, none⟩) ((sel (tx m.1) all).length + 1) c) ((sel (tx m.1) all).length + 1) (m2V (sel (tx m.1) all) ++ [.string (tx m.2.1), .string (tx m.2.2)]))
    (hg : W8.grownBy w9 ((lk lb (tx m.1)).getD (.slice none 0 0)).ownBlock) (hat : ((lk lb (tx m.1)).getD (.slice none 0 0)).ownBlock = some g ∨ g = W8.heap.size) (hg10 : w9.grownBy w10 (some (b + 1))) :
    MapAt w10 b lx ∧ Binds (b + 2) w10 (putP lb (tx m.1) (.slice (some ⟨g, 0, none⟩) ((sel (tx m.1) all).length + 1) c)) (all ++ [m]) ∧ Below b w w10 := by
  have hge := hbi.old_ge (tx m.1)
  have h9 := hbi.put m (tx m.1) rfl g c _ (Nat.le_refl _) hown hg hat
  have hmx9 : MapAt w9 b lx := hmx.kept (hg.block _ hmx.lt (fun e => by have := hge b e.symm; omega))
  refine ⟨hmx9.kept (hg10.block _ hmx9.lt (fun e => by have := Option.some.inj e; omega)), h9.kept hg10 (fun k hk => by cases hk; omega), ?_⟩
  exact (hbe.grown hg (Nat.le_of_lt hmx.lt) (fun k hk => by have := hge k hk; omega)).grown hg10 (Nat.le_of_lt hmx9.lt) (fun k hk => by cases hk; omega)

abbrev p0 : Pub := ⟨0, 0, [], [], 0, 0⟩

theorem flat_next (ps : List Pub) (i : Nat) (hi : i < ps.length) : (ps.take (i + 1)).flatMap Pub.ms = (ps.take i).flatMap Pub.ms ++ (ps.getD i p0).ms := by
  rw [List.take_succ_eq_append_getElem hi, List.flatMap_append]
  simp [List.getD, List.getElem?_eq_getElem hi]

theorem flat_len (ps : List Pub) (hps : ∀ p ∈ ps, p.Ok) : (ps.flatMap Pub.ms).length ≤ ps.length * 201 := by
  induction ps with
  | nil => simp
  | cons p r ih =>
    have h1 := ih (fun q hq => hps q (List.mem_cons_of_mem _ hq))
    have h2 := (hps p List.mem_cons_self).n
    rw [List.flatMap_cons, List.length_append, p.ms_len, List.length_cons]
    omega

theorem flat_take_len (ps : List Pub) (hps : ∀ p ∈ ps, p.Ok) (i : Nat) : ((ps.take i).flatMap Pub.ms).length ≤ ps.length * 201 := by
  have h1 := flat_len (ps.take i) (fun p hp => hps p (List.mem_of_mem_take hp))
  have h2 : (ps.take i).length ≤ ps.length := by rw [List.length_take]; omega
  have h3 := Nat.mul_le_mul_right 201 h2
  omega

theorem getD_mem (ps : List Pub) (i : Nat) (hi : i < ps.length) : ps.getD i p0 ∈ ps := by
  have e : ps.getD i p0 = ps[i] := by simp [List.getD, List.getElem?_eq_getElem hi]
  rw [e]; exact List.getElem_mem hi

theorem m3_snoc (l : List M3) (j : Nat) (hj : j < l.length) : l.take (j + 1) = l.take j ++ [l.getD j ([], [], [])] := by
  rw [List.take_succ_eq_append_getElem hj]
  simp [List.getD, List.getElem?_eq_getElem hj]

set_option maxRecDepth 100000 in
set_option maxHeartbeats 8000000 in
theorem parseSpecs_ok (ps : List Pub) (hps : ∀ p ∈ ps, p.Ok) (hn : ps.length ≤ 20) (ao : Option Addr) (c : Nat) (w : World) (hT : Tabs w)
    (hx : ∀ i, i < ps.length → ∃ g, ao = some ⟨g, 0, none⟩ ∧ g < w.heap.size ∧ w.cell? ⟨g, i, none⟩ = some (.string (tx (ps.getD i p0).text)))
    (hspec : ∀ p, p ∈ ps → ∀ W, Tabs W → Calls Tryz.prog 26 #[.string (tx p.text)] W fun e w' => ∃ g c : Nat, e = .returned (.tuple #[.slice (some ⟨g, 0, none⟩) p.ms.length c, .nilIface]) ∧ W.heap.size ≤ g ∧ M3At w' g p.ms ∧ Below W.heap.size W w') :
    Calls Tryz.prog 33 #[.slice ao ps.length c] w fun e w' => ∃ lx lb : Pairs, e = .returned (.tuple #[.map (some w.heap.size), .map (some (w.heap.size + 1)), .nilIface]) ∧ PS w.heap.size w w' lx lb (ps.flatMap Pub.ms) := by
  obtain ⟨i0, hi, hz0, hz1, hz2⟩ := info_parts info65
  obtain ⟨n, hN⟩ : ∃ n, n = ps.length := ⟨_, rfl⟩
  have HN : Hid (n = ps.length) := hN
  have Hx := Lib.hid hx
  have Hs := Lib.hid hspec
  have Ht := Lib.hid hT
  have HF := Lib.hid (fun i => flat_take_len ps hps i)
  have Hps := Lib.hid hps
  have hmk := @run_makeMap Tryz.prog
  have hmk2 := make_reserved
  have hn2 : n ≤ 20 := by rw [hN]; exact hn
  have HPS : Hid (PS w.heap.size w ((w.alloc (.map #[] 0)).alloc (.map #[] 0)) [] [] []) :=
    ⟨(MapAt.made w).alloc _, (by have h := MapAt.made (w.alloc (.map #[] 0)); simpa using h), (fun k v e => by rw [lk_nil] at e; cases e), Keys.nil, Binds.nil _ _, ((Below.refl _ _).alloc (Nat.le_refl _) _).alloc (by simp) _⟩
  rw [← hN]
  clear hN hx hspec hT hps hn
  go_enter Tryz.func33, Tryz.ntmps33
  go_wp2_with fail
  go_loopg [22] (n + 1) (fun m iv wr => ∃ (i : Nat) (lx lb : Pairs), iv = .int .i64 i ∧ Hid (m + i = n + 1) ∧ i ≤ n ∧ Hid (PS w.heap.size w wr lx lb ((ps.take i).flatMap Pub.ms)))
  case atStart => exact ⟨0, [], [], rfl, rfl, Nat.zero_le _, HPS⟩
  case round =>
    clear HPS
    obtain ⟨G, hG⟩ : ∃ G, G = gk := ⟨_, rfl⟩
    subst hG
    obtain ⟨i, lx, lb, rfl, hm, hi1, hps⟩ := hrel
    by_cases hin : i < n
    · have hlt : decide ((i : Int) < (n : Int)) = true := decide_eq_true (by omega)
      have q1 : (0 : Int) ≤ (i : Int) := by omega
      have q2 : (i : Int) < (n : Int) := by omega
      obtain ⟨g, rfl, hgl, c0⟩ := Hx.out i (by have := HN.out; omega)
      have c0 := (hps.out.be.cell (p := ⟨g, i, none⟩) hgl).trans c0
      obtain ⟨p, hp⟩ : ∃ p, p = ps.getD i p0 := ⟨_, rfl⟩
      have Hpm : Hid (p ∈ ps) := by rw [hp]; exact getD_mem ps i (by have := HN.out; omega)
      have Hfl : Hid ((ps.take (i + 1)).flatMap Pub.ms = (ps.take i).flatMap Pub.ms ++ p.ms) := by rw [hp]; exact flat_next ps i (by have := HN.out; omega)
      have HA : Hid (((ps.take i).flatMap Pub.ms).length ≤ 4020) := by have h1 := HF.out i; have h2 := HN.out; show _ ≤ _; omega
      have hL : p.ms.length ≤ 201 := by rw [p.ms_len]; have := (Hps.out p Hpm.out).n; omega
      rw [← hp] at c0
      generalize (ps.take i).flatMap Pub.ms = A at *
      clear hp
      go_wp2_with fail
      refine (Hs.out p Hpm.out wr (Ht.out.below hps.out.be)).mono ?_
      rintro e w4 ⟨gm, cm, rfl, hgm, hm3, hb4⟩
      have HPS := Lib.hid (hps.out.below hb4)
      have HFar : Hid (Far lb gm) := by
        intro k v e hx
        obtain ⟨g', c', rfl, _, hlt'⟩ := hps.out.bi.block e
        have : g' = gm := Option.some.inj hx
        omega
      have Hgm : Hid (w.heap.size + 1 < gm) := Nat.lt_of_lt_of_le hps.out.mb.lt hgm
      have HM3 := Lib.hid hm3
      obtain ⟨L, hLe⟩ : ∃ L, L = p.ms.length := ⟨_, rfl⟩
      have HL := Lib.hid hLe
      rw [← hLe] at hL ⊢
      clear hps hb4 hm3 hgm c0 hLe
      go_wp2_with fail
      go_loopg [36] (L + 1) (fun m jv wq => ∃ (j : Nat) (lx lb : Pairs), jv = .int .i64 j ∧ Hid (m + j = L + 1) ∧ j ≤ L ∧ Hid (PS w.heap.size w wq lx lb (A ++ p.ms.take j)) ∧ Hid (M3At wq gm p.ms) ∧ Hid (Far lb gm))
      case atStart => exact ⟨0, lx, lb, rfl, rfl, Nat.zero_le _, (by show PS _ _ _ _ _ _; rw [List.take_zero, List.append_nil]; exact HPS.out), HM3, HFar⟩
      case round =>
        clear HPS HM3 HFar
        obtain ⟨j, lx, lb, rfl, hmj, hj1, hps, hm3, hfar⟩ := hrel
        by_cases hjn : j < L
        · have hlt : decide ((j : Int) < (L : Int)) = true := decide_eq_true (by omega)
          have p1 : (0 : Int) ≤ (j : Int) := by omega
          have p2 : (j : Int) < (L : Int) := by omega
          obtain ⟨c0, c1, c2⟩ := hm3.out j (by have := HL.out; omega)
          obtain ⟨m, hme⟩ : ∃ m, m = p.ms.getD j ([], [], []) := ⟨_, rfl⟩
          rw [← hme] at c0 c1 c2
          have Hnx : Hid (p.ms.take (j + 1) = p.ms.take j ++ [m]) := by rw [hme]; exact m3_snoc _ _ (by have := HL.out; omega)
          have Hall : Hid (A ++ p.ms.take (j + 1) = (A ++ p.ms.take j) ++ [m]) := by show _ = _; rw [Hnx.out, List.append_assoc]
          clear hme Hnx
          have hsl : (sel (tx m.1) (A ++ p.ms.take j)).length ≤ 5000 := by
            have h1 := sel_len (tx m.1) (A ++ p.ms.take j)
            have h2 := HA.out
            rw [List.length_append, List.length_take] at h1
            omega
          generalize A ++ p.ms.take j = all at *
          have hmx := hps.out.mx
          have hmb := hps.out.mb
          have hbi := hps.out.bi
          have hun := hps.out.un.get (tx m.1)
          have hlt8 := hmb.lt
          obtain ⟨v0, hv0⟩ : ∃ v0, v0 = (lk lb (tx m.1)).getD (.slice none 0 0) := ⟨_, rfl⟩
          have own0 := hbi.old (tx m.1)
          have hge := hbi.old_ge (tx m.1)
          have hof := old_far hfar.out (tx m.1)
          rw [← hv0] at own0 hge hof
          obtain ⟨ao0, cc0, rfl⟩ := owns_shape3 own0
          have Hv0 := Lib.hid hv0
          clear hv0
          cases hs : (lk lx (tx m.1)).isSome with
          | true =>
            go_wp2_with (first | (at_lookup; (refine wpList_look2 _ rfl _ _ 72 rfl 63 94 Tryz.underlying72 Tryz.underlying63 (.agg #[]) (zero_unit _) w.heap.size lx rfl (hmx.alloc _) (tx m.1) rfl _ hun _ hs ?_)) | (at_lookup; (refine wpList_look _ rfl _ _ 73 rfl 63 78 Tryz.underlying73 Tryz.underlying63 (.slice none 0 0) (zero_binds _) (w.heap.size + 1) lb rfl ((hmb.alloc _).alloc _) (tx m.1) rfl _ Hv0.out.symm ?_)) | (at_builtin; (refine wpList_append_lies _ rfl (.tmp 57) (.tmp 60) 78 rfl (w.heap.size + 2) tyB i0 (.agg #[.string ⟨#[]⟩, .string ⟨#[]⟩]) 2 32 Tryz.underlying78 hi hz0 hz1 hz2 rfl (by decide) (.slice ao0 (sel (tx m.1) all).length cc0) (sel (tx m.1) all).length (m2V (sel (tx m.1) all)) rfl (((own0.alloc _).alloc _).alloc _) ⟨_, 0, none⟩ 1 1 [.string (tx m.2.1), .string (tx m.2.2)] rfl rfl (cell_two_at _ _ _ _ _ (by simp)) (two_str _ _) (by decide) (by unfold maxLen; omega) (by omega) (by simp; omega) _ rfl ?_); intro gq cq w9 hown9 hg9 hat9 hlt9; have hmb9 : MapAt w9 (w.heap.size + 1) lb := (((hmb.alloc _).alloc _).alloc _).kept (hg9.block _ (((hmb.alloc _).alloc _).alloc _).lt (fun e => by have := hge _ e.symm; omega))) | (at_mapUpdate; refine wpList_store _ rfl _ _ _ 73 rfl 63 78 Tryz.underlying73 Tryz.underlying63 (w.heap.size + 1) lb rfl hmb9 (tx m.1) (.slice (some ⟨gq, 0, none⟩) ((sel (tx m.1) all).length + 1) cq) rfl rfl ?_; intro w10 hm10 hg10))
            go_roundg (gk - 1)
            case measure => have := hmj.out; omega
            case rel =>
              have e1 := hmj.out
              have hgl : gm < wr.heap.size := World.block_lt_of_cell? wr _ c0
              have hgm2 := Hgm.out
              have hp8 := hps.out.below (below_al3 wr (.cells #[.string (tx m.1), .string (tx m.2.1), .string (tx m.2.2)] 67) (.cells #[] 94) (.cells #[.string (tx m.2.1), .string (tx m.2.2)] 65))
              obtain ⟨k1, k2, k3⟩ := PS.step (w := w) hp8.mx hp8.bi hp8.be m hown9 (by rw [← Hv0.out]; exact hg9) (by rw [← Hv0.out]; exact hat9) hg10
              refine ⟨j + 1, lx, putP lb (tx m.1) (.slice (some ⟨gq, 0, none⟩) ((sel (tx m.1) all).length + 1) cq), by go_num, (show _ = _ by omega), by omega, ?_, ?_, ?_⟩
              · show PS _ _ _ _ _ _
                rw [Hall.out]
                exact ⟨k1, hm10, hp8.un, hp8.kx.same m hs, k2, k3⟩
              · exact m3_grown (m3_grown (hm3.out.below (below_al3 wr _ _ _)) hg9 hof) hg10 (fun e => by have := Option.some.inj e; omega)
              · exact Far.put hfar.out (tx m.1) (by rw [← Hv0.out]; exact hat9) (by simp; omega)
          | false =>
            go_wp2_with (first | (at_lookup; (refine wpList_look2 _ rfl _ _ 72 rfl 63 94 Tryz.underlying72 Tryz.underlying63 (.agg #[]) (zero_unit _) w.heap.size lx rfl (hmx.alloc _) (tx m.1) rfl _ hun _ hs ?_)) | (at_mapUpdate; refine wpList_store _ rfl _ _ _ 72 rfl 63 94 Tryz.underlying72 Tryz.underlying63 (w.heap.size) lx rfl ((hmx.alloc _).alloc _) (tx m.1) (.agg #[]) rfl rfl ?_; intro w6 hm6 hg6; have hmb6 : MapAt w6 (w.heap.size + 1) lb := ((hmb.alloc _).alloc _).kept (hg6.block _ ((hmb.alloc _).alloc _).lt (fun e => by have := Option.some.inj e; omega)); have own6 := ((own0.alloc _).alloc _).kept hg6 (Or.inr (fun e => by have := hge _ e; omega)); have r6 := (hg6.block wr.heap.size (by simp; omega) (fun e => by have := Option.some.inj e; omega)).trans ((Below.heap_alloc _ _ _ (by simp)).trans (heap_alloc_new wr (.cells #[.string (tx m.1), .string (tx m.2.1), .string (tx m.2.2)] 67))); have d0 := row_cell (l := [.string (tx m.1), .string (tx m.2.1), .string (tx m.2.2)]) r6 (j := 0) rfl; have d1 := row_cell (l := [.string (tx m.1), .string (tx m.2.1), .string (tx m.2.2)]) r6 (j := 1) rfl; have d2 := row_cell (l := [.string (tx m.1), .string (tx m.2.1), .string (tx m.2.2)]) r6 (j := 2) rfl; have hlt6 := hmb6.lt) | (at_lookup; (refine wpList_look _ rfl _ _ 73 rfl 63 78 Tryz.underlying73 Tryz.underlying63 (.slice none 0 0) (zero_binds _) (w.heap.size + 1) lb rfl (hmb6) (tx m.1) rfl _ Hv0.out.symm ?_)) | (at_builtin; (refine wpList_append_lies _ rfl (.tmp 57) (.tmp 60) 78 rfl (w.heap.size + 2) tyB i0 (.agg #[.string ⟨#[]⟩, .string ⟨#[]⟩]) 2 32 Tryz.underlying78 hi hz0 hz1 hz2 rfl (by decide) (.slice ao0 (sel (tx m.1) all).length cc0) (sel (tx m.1) all).length (m2V (sel (tx m.1) all)) rfl (own6.alloc _) ⟨_, 0, none⟩ 1 1 [.string (tx m.2.1), .string (tx m.2.2)] rfl rfl (cell_two_at _ _ _ _ _ (by simp)) (two_str _ _) (by decide) (by unfold maxLen; omega) (by omega) (by simp; omega) _ rfl ?_); intro gq cq w9 hown9 hg9 hat9 hlt9; have hmb9 : MapAt w9 (w.heap.size + 1) lb := (hmb6.alloc _).kept (hg9.block _ (hmb6.alloc _).lt (fun e => by have := hge _ e.symm; omega))) | (at_mapUpdate; refine wpList_store _ rfl _ _ _ 73 rfl 63 78 Tryz.underlying73 Tryz.underlying63 (w.heap.size + 1) lb rfl hmb9 (tx m.1) (.slice (some ⟨gq, 0, none⟩) ((sel (tx m.1) all).length + 1) cq) rfl rfl ?_; intro w10 hm10 hg10))
            go_roundg (gk - 1)
            case measure => have := hmj.out; omega
            case rel =>
              have e1 := hmj.out
              have hgl : gm < wr.heap.size := World.block_lt_of_cell? wr _ c0
              have hgm2 := Hgm.out
              have hp7 := hps.out.below (below_al2 wr (.cells #[.string (tx m.1), .string (tx m.2.1), .string (tx m.2.2)] 67) (.cells #[] 94))
              obtain ⟨s1, s2, s3⟩ := hp7.seen hm6 hg6
              have hs6 := hg6.size
              obtain ⟨k1, k2, k3⟩ := PS.step (w := w) (hm6.alloc _) (s2.below ((Below.refl _ _).alloc (Nat.le_refl _) _)) (s3.alloc (by omega) _) m hown9 (by rw [← Hv0.out]; exact hg9) (by rw [← Hv0.out]; exact hat9) hg10
              refine ⟨j + 1, putP lx (tx m.1) (.agg #[]), putP lb (tx m.1) (.slice (some ⟨gq, 0, none⟩) ((sel (tx m.1) all).length + 1) cq), by go_num, (show _ = _ by omega), by omega, ?_, ?_, ?_⟩
              · show PS _ _ _ _ _ _
                rw [Hall.out]
                exact ⟨k1, hm10, hp7.un.put _, hp7.kx.put m _, k2, k3⟩
              · exact m3_grown (m3_grown ((m3_grown (hm3.out.below (below_al2 wr _ _)) hg6 (fun e => by have := Option.some.inj e; omega)).below ((Below.refl _ _).alloc (Nat.le_refl _) _)) hg9 hof) hg10 (fun e => by have := Option.some.inj e; omega)
              · exact Far.put hfar.out (tx m.1) (by rw [← Hv0.out]; exact hat9) (by simp at hs6 ⊢; omega)
        · obtain rfl : j = L := by omega
          have hlt : decide ((j : Int) < (j : Int)) = false := by simp
          have HPS2 : Hid (PS w.heap.size w wr lx lb ((ps.take (i + 1)).flatMap Pub.ms)) := by
            have h := hps.out
            rw [HL.out, List.take_length] at h
            show PS _ _ _ _ _ _
            rw [Hfl.out]; exact h
          clear hps hm3 hfar
          go_wp2_with fail
          go_roundg (G - 1)
          case measure => have := hm.out; omega
          case rel =>
            have e1 := hm.out
            exact ⟨i + 1, lx, lb, by go_num, (show _ = _ by omega), by omega, HPS2⟩
    · obtain rfl : i = n := by omega
      have hlt : decide ((i : Int) < (i : Int)) = false := by simp
      have HPS2 : Hid (PS w.heap.size w wr lx lb (ps.flatMap Pub.ms)) := by
        have h := hps.out
        rw [HN.out, List.take_length] at h
        exact h
      clear hps
      go_wp2_with fail
      go_ret3
      exact ⟨lx, lb, rfl, HPS2.out⟩
end Go.Proofs.YtdmggcbbfljciaaGreatDoor

/- slices.Sort at texts of the call's own (also at none). -/
namespace Go.Proofs.YtdmggcbbfljciaaGreatDoor
open Go.RowKit Go.Lib Go.Sort

theorem strs_eq {ss ks : List ByteArray} (h : ss.map (fun x => x.data.toList) = ks.map (fun x => x.data.toList)) : ss = ks := by
  induction ss generalizing ks with
  | nil => cases ks with
    | nil => rfl
    | cons a b => simp at h
  | cons a b ih => cases ks with
    | nil => simp at h
    | cons c d =>
      simp only [List.map_cons, List.cons.injEq] at h
      rw [bytes_ext h.1, ih h.2]

def bs (s : ByteArray) : List UInt8 := s.data.toList
theorem enc_bs (ss : List ByteArray) : (ss.map bs).map encStr = strsV ss := by
  unfold strsV
  rw [List.map_map]
  apply List.map_congr_left
  intro s _
  show encStr s.data.toList = .string s
  unfold encStr
  congr 1

theorem of_bs (ls : List (List UInt8)) : ∃ ts : List ByteArray, ts.map bs = ls := ⟨ls.map fun l => ⟨l.toArray⟩, by rw [List.map_map]; simp [bs, Function.comp_def]⟩

/-- growing texts -/
def Growing (ts : List ByteArray) : Prop := ts.Pairwise fun a b => bs a ≤ bs b

theorem bs_le_trans (a b c : List UInt8) : decide (a ≤ b) = true → decide (b ≤ c) = true → decide (a ≤ c) = true := by
  simp only [decide_eq_true_eq]
  exact fun h1 h2 => List.le_trans h1 h2
theorem bs_le_total (a b : List UInt8) : (decide (a ≤ b) || decide (b ≤ a)) = true := by
  rw [Bool.or_eq_true, decide_eq_true_eq, decide_eq_true_eq]
  exact List.le_total a b

theorem sort_strs (B g cap : Nat) (ss : List ByteArray) (w : World) (h : w.ownsRow B 9 1 (.slice (some ⟨g, 0, none⟩) ss.length cap) ss.length (strsV ss)) (hl : ss.length < 4611686018427387904) :
    Calls Tryz.prog 35 #[.slice (some ⟨g, 0, none⟩) ss.length cap] w fun e w' => e = .returned (.tuple #[]) ∧ ∃ ts : List ByteArray, ts.Perm ss ∧ Growing ts ∧ w'.ownsRow B 9 1 (.slice (some ⟨g, 0, none⟩) ss.length cap) ss.length (strsV ts) ∧ w.grownBy w' (some g) := by
  rcases h.2 with ⟨hnil, _⟩ | ⟨g', cap', cur, he, hbase, hb, h1, h2, h3, h4⟩
  · cases hnil
  · simp only [Value.slice.injEq, Option.some.injEq, Addr.mk.injEq, and_true, true_and] at he
    obtain ⟨rfl, rfl⟩ := he
    have hH : Holds encStr w g 0 (ss.map bs).toArray := holds_of_block hb (by rw [List.length_map, enc_bs]; simpa using h4)
    have hc := Tryz.slices_Sort_string g 0 cap (ss.map bs) w hH (Array.getElem?_eq_some_iff.1 hb).1 (by rw [List.length_map]; exact hl)
    rw [List.length_map] at hc
    refine hc.mono ?_
    rintro e w' ⟨rfl, n, os, rfl⟩
    obtain ⟨ts, hts⟩ := of_bs ((ss.map bs).mergeSort fun x y => decide (x ≤ y))
    have hp : (ts.map bs).Perm (ss.map bs) := by rw [hts]; exact List.mergeSort_perm _ _
    have hsorted : (ts.map bs).Pairwise (fun a b => a ≤ b) := by
      rw [hts]
      exact (List.pairwise_mergeSort bs_le_trans bs_le_total (ss.map bs)).imp (fun h => by simpa using h)
    have hperm : ts.Perm ss := by
      have h5 := hp.map (fun l : List UInt8 => (⟨l.toArray⟩ : ByteArray))
      rw [List.map_map, List.map_map] at h5
      have e : (fun l : List UInt8 => (⟨l.toArray⟩ : ByteArray)) ∘ bs = id := by funext s; simp [bs]
      rw [e, List.map_id, List.map_id] at h5
      exact h5
    refine ⟨rfl, ts, hperm, List.pairwise_map.1 hsorted, ?_, by rw [← hts]; exact grownBy_sorted _⟩
    have hl2 : (ts.map bs).length = (ss.map bs).length := hp.length_eq
    have := ownsRow_sorted (w := w) (n := n) (os := os) (ts := ts.map bs) (ss := ss.map bs) hl2 hbase hb (by simpa using h1) h2 (by simpa using h3)
    rw [enc_bs, List.length_map, hts] at this
    exact this

/-- growing lists of the same texts are the same -/
theorem growing_unique {a b : List ByteArray} (h : a.Perm b) (ha : Growing a) (hb : Growing b) : a = b := by
  have h1 : (a.map bs) = (b.map bs) := (h.map bs).eq_of_pairwise (fun x y _ _ h1 h2 => List.le_antisymm h1 h2) (List.pairwise_map.2 ha) (List.pairwise_map.2 hb)
  exact strs_eq h1

/-- slices.Sort at whatever texts the call owns -/
theorem sort_own (B : Nat) (v : Value) (ss : List ByteArray) (w : World) (h : w.ownsRow B 9 1 v ss.length (strsV ss)) (hl : ss.length < 4611686018427387904) :
    Calls Tryz.prog 35 #[v] w fun e w' => e = .returned (.tuple #[]) ∧ ∃ ts : List ByteArray, ts.Perm ss ∧ Growing ts ∧ w'.ownsRow B 9 1 v ss.length (strsV ts) ∧ w.grownBy w' v.ownBlock := by
  have h0 := h
  rcases h.2 with ⟨rfl, hn⟩ | ⟨g, cap, cur, rfl, _⟩
  · rw [hn]
    refine (Tryz.slices_Sort_string_none none 0 w).mono ?_
    rintro e w' ⟨rfl, rfl⟩
    obtain rfl : ss = [] := List.eq_nil_of_length_eq_zero hn
    exact ⟨rfl, [], List.Perm.refl _, List.Pairwise.nil, h0, rfl, rfl, rfl, Nat.le_refl _, fun _ _ _ => rfl⟩
  · exact sort_strs B g cap ss w h0 hl
end Go.Proofs.YtdmggcbbfljciaaGreatDoor

/- what impl.Specs holds on to: its three result cells, blocks that stay as they were, rows of texts. -/
namespace Go.Proofs.YtdmggcbbfljciaaGreatDoor
open Go.RowKit Go.Lib

set_option maxRecDepth 100000 in
theorem specsGuard_idle (p q r : Addr) (w : World) :
    CallsD Tryz.prog 32 #[.pointer (some p), .pointer (some q), .pointer (some r)] .returning w fun e u' w' => e = .returned (.tuple #[]) ∧ u' = .returning ∧ w' = w := by
  refine callsD_of_wpS Tryz.func32 rfl fun c₀ cs hu => ?_
  apply wpS_seq
  apply wpS_region
  simp [wpOpsS, go_sem, recoverD, hu, Tryz.ntmps32, Exit.thenS]
  refine wpS_cond (t := false) (by simp [Act.eval, Array.replicate]) ?_
  simp only [Bool.false_eq_true, if_false]
  refine wpS_of_wp (wp_skip ?_)
  cases c₀
  simp_all [bodyPostS, results, Tryz.results32]

/-- slices.Clone at texts of the call's own -/
theorem clone_strs (B : Nat) (v : Value) (ss : List ByteArray) (w : World) (h : w.ownsRow B 9 1 v ss.length (strsV ss)) (hl : ss.length ≤ 1000) :
    Calls Tryz.prog 34 #[v] w fun e w' => ∃ (ao : Option Addr) (c : Nat), e = .returned (.slice ao ss.length c) ∧ w'.ownsRow w.heap.size 9 1 (.slice ao ss.length c) ss.length (strsV ss) ∧ Below w.heap.size w w' := by
  rcases h.2 with ⟨rfl, h0⟩ | ⟨g, cap, cur, rfl, hg, hh, hn, hc, hs, ht⟩
  · have e : ss = [] := List.eq_nil_of_length_eq_zero (by simpa using h0)
    subst e
    refine (Tryz.slices_Clone_string_nil _ _ w).mono ?_
    rintro e w' ⟨rfl, rfl⟩
    exact ⟨_, _, rfl, World.ownsRow_nil _ _ _ _, Below.refl _ _⟩
  · refine (Tryz.slices_Clone_string g 0 ss.length cap ss w (Nat.le_refl _) (by omega) ?_).mono ?_
    · intro j hj
      have := h.cellAt j (by omega)
      rw [Nat.zero_add]
      rw [this]
      simp [strsV, List.getD, List.getElem?_eq_getElem hj]
    · rintro e w' ⟨u, rfl, hown, _, hb⟩
      have e0 : (ss.take ss.length).map Value.string = strsV ss := by rw [List.take_length]; rfl
      rw [e0] at hown
      obtain ⟨ao, c, rfl⟩ := owns_shape3 hown
      exact ⟨ao, c, rfl, hown, hb⟩

/-- blocks a .. b of w are in w' as they were -/
structure Same (a b : Nat) (w w' : World) : Prop where
  size : w.heap.size ≤ w'.heap.size
  block : ∀ j, a ≤ j → j < b → w'.heap[j]? = w.heap[j]?

theorem Same.refl (a b : Nat) (w : World) : Same a b w w := ⟨Nat.le_refl _, fun _ _ _ => rfl⟩
theorem Same.trans {a b : Nat} {x y z : World} (h : Same a b x y) (k : Same a b y z) : Same a b x z := ⟨Nat.le_trans h.size k.size, fun j h1 h2 => (k.block j h1 h2).trans (h.block j h1 h2)⟩
theorem Same.mono {a b a' b' : Nat} {x y : World} (h : Same a b x y) (ha : a ≤ a') (hb : b' ≤ b) : Same a' b' x y := ⟨h.size, fun j h1 h2 => h.block j (Nat.le_trans ha h1) (Nat.lt_of_lt_of_le h2 hb)⟩
theorem Same.of_below {a b : Nat} {x y : World} (h : Below b x y) : Same a b x y := ⟨h.size, fun j _ h2 => h.block j h2⟩
theorem Same.grown {a b : Nat} {x y : World} {row : Option Nat} (hg : x.grownBy y row) (hb : b ≤ x.heap.size) (hr : ∀ k, row = some k → b ≤ k ∨ k < a) : Same a b x y :=
  ⟨hg.size, fun j h1 h2 => hg.block j (by omega) (fun e => by have := hr j e.symm; omega)⟩
theorem Same.alloc (a b : Nat) (x : World) (o : Obj) (hb : b ≤ x.heap.size) : Same a b x (x.alloc o) := ⟨by simp, fun j _ h2 => Below.heap_alloc _ _ _ (by omega)⟩
theorem Same.setCell (a b : Nat) (x : World) (p : Addr) (u : Value) (hp : p.block < a ∨ b ≤ p.block) : Same a b x (x.setCell p u) :=
  ⟨by simp [World.setCell], fun j h1 h2 => Below.heap_setCell _ _ _ _ (by omega)⟩

theorem own_same {a b : Nat} {w w' : World} {e sz n : Nat} {v : Value} {xs : List Value} (h : w.ownsRow a e sz v n xs) (hs : Same a b w w') (hb : ∀ k, v.ownBlock = some k → k < b) : w'.ownsRow a e sz v n xs := by
  refine ⟨h.1, ?_⟩
  rcases h.2 with h' | ⟨g, cap, cur, h1, h2, h3, h4⟩
  · exact Or.inl h'
  · exact Or.inr ⟨g, cap, cur, h1, h2, (hs.block g h2 (hb g (by rw [h1]; rfl))).trans h3, h4⟩

theorem own_lt {a : Nat} {w : World} {e sz n : Nat} {v : Value} {xs : List Value} (h : w.ownsRow a e sz v n xs) : ∀ k, v.ownBlock = some k → k < w.heap.size := fun k hk => (h.lt k hk).2

theorem Binds.same {B b : Nat} {w w' : World} {lb : Pairs} {all : List M3} (h : Binds B w lb all) (hs : Same B b w w') (hb : w.heap.size ≤ b) : Binds B w' lb all :=
  ⟨h.keys, fun k v e => own_same (h.rows k v e) hs (fun j hj => Nat.lt_of_lt_of_le (own_lt (h.rows k v e) j hj) hb), h.apart⟩

/-- the three result cells of impl.Specs, from block n on -/
structure Fr (n : Nat) (w wr : World) (p q : Value) : Prop where
  c0 : wr.heap[n]? = some (.cells #[p] 45 (0, 0))
  c1 : wr.heap[n + 1]? = some (.cells #[q] 46 (0, 0))
  c2 : wr.heap[n + 2]? = some (.cells #[.bool false] 4 (0, 0))
  be : Below n w wr

theorem Fr.lt {n : Nat} {w wr : World} {p q : Value} (h : Fr n w wr p q) : n + 2 < wr.heap.size := (Array.getElem?_eq_some_iff.1 h.c2).1

theorem Fr.new (w : World) : Fr w.heap.size w (((w.alloc (.cells #[.slice none 0 0] 45)).alloc (.cells #[.slice none 0 0] 46)).alloc (.cells #[.bool false] 4)) (.slice none 0 0) (.slice none 0 0) := by
  refine ⟨?_, ?_, ?_, below_al3 _ _ _ _⟩
  · rw [Below.heap_alloc _ _ _ (by simp; omega), Below.heap_alloc _ _ _ (by simp)]; exact heap_alloc_new _ _
  · rw [Below.heap_alloc _ _ _ (by simp)]
    have h := heap_alloc_new (w.alloc (.cells #[.slice none 0 0] 45)) (.cells #[.slice none 0 0] 46)
    simpa using h
  · have h := heap_alloc_new ((w.alloc (.cells #[.slice none 0 0] 45)).alloc (.cells #[.slice none 0 0] 46)) (.cells #[.bool false] 4)
    simpa using h

theorem Fr.below {n : Nat} {w wr w' : World} {p q : Value} (h : Fr n w wr p q) (hb : Below wr.heap.size wr w') : Fr n w w' p q :=
  ⟨(hb.block _ (by have := h.lt; omega)).trans h.c0, (hb.block _ (by have := h.lt; omega)).trans h.c1, (hb.block _ h.lt).trans h.c2, h.be.trans (hb.mono (by have := h.lt; omega))⟩

theorem Fr.grown {n : Nat} {w wr w' : World} {p q : Value} {row : Option Nat} (h : Fr n w wr p q) (hg : wr.grownBy w' row) (hr : ∀ k, row = some k → n + 3 ≤ k) : Fr n w w' p q :=
  ⟨(hg.block _ (by have := h.lt; omega) (fun e => by have := hr _ e.symm; omega)).trans h.c0, (hg.block _ (by have := h.lt; omega) (fun e => by have := hr _ e.symm; omega)).trans h.c1,
    (hg.block _ h.lt (fun e => by have := hr _ e.symm; omega)).trans h.c2, h.be.grown hg (by have := h.lt; omega) (fun k hk => by have := hr k hk; omega)⟩

theorem Fr.alloc {n : Nat} {w wr : World} {p q : Value} (h : Fr n w wr p q) (o : Obj) : Fr n w (wr.alloc o) p q := h.below ((Below.refl _ _).alloc (Nat.le_refl _) _)

theorem Fr.put0 {n : Nat} {w wr : World} {p q : Value} (h : Fr n w wr p q) (u : Value) : Fr n w (wr.setCell ⟨n, 0, none⟩ u) u q := by
  refine ⟨?_, ?_, ?_, h.be.setCell (Nat.le_refl _) _⟩
  · rw [heap_setCell_same _ _ _ _ _ _ h.c0]; rfl
  · rw [Below.heap_setCell _ _ _ _ (by simp)]; exact h.c1
  · rw [Below.heap_setCell _ _ _ _ (by simp)]; exact h.c2

theorem Fr.put1 {n : Nat} {w wr : World} {p q : Value} (h : Fr n w wr p q) (u : Value) : Fr n w (wr.setCell ⟨n + 1, 0, none⟩ u) p u := by
  refine ⟨?_, ?_, ?_, h.be.setCell (Nat.le_succ _) _⟩
  · rw [Below.heap_setCell _ _ _ _ (by simp)]; exact h.c0
  · rw [heap_setCell_same _ _ _ _ _ _ h.c1]; rfl
  · rw [Below.heap_setCell _ _ _ _ (by simp)]; exact h.c2

theorem Fr.far {n : Nat} {w wr : World} {p q : Value} (h : Fr n w wr p q) {a : Addr} (ha : n + 3 ≤ a.block) (u : Value) : Fr n w (wr.setCell a u) p q :=
  ⟨(Below.heap_setCell _ _ _ _ (by omega)).trans h.c0, (Below.heap_setCell _ _ _ _ (by omega)).trans h.c1, (Below.heap_setCell _ _ _ _ (by omega)).trans h.c2, h.be.setCell (by omega) _⟩

/-- what may stand in the two result cells is read -/
theorem Fr.cells {n : Nat} {w wr : World} {p q : Value} (h : Fr n w wr p q) : wr.cell? ⟨n, 0, none⟩ = some p ∧ wr.frozen? ⟨n, 0, none⟩ = false ∧ wr.cell? ⟨n + 1, 0, none⟩ = some q ∧ wr.frozen? ⟨n + 1, 0, none⟩ = false ∧ wr.cell? ⟨n + 2, 0, none⟩ = some (.bool false) ∧ wr.frozen? ⟨n + 2, 0, none⟩ = false :=
  ⟨row_cell (l := [p]) h.c0 (j := 0) rfl, row_free (l := [p]) h.c0 0, row_cell (l := [q]) h.c1 (j := 0) rfl, row_free (l := [q]) h.c1 0, row_cell (l := [.bool false]) h.c2 (j := 0) rfl, row_free (l := [.bool false]) h.c2 0⟩

theorem strsV_snoc (l : List ByteArray) (k : ByteArray) : strsV (l ++ [k]) = strsV l ++ [.string k] := by simp [strsV]

theorem cell_one_at (w : World) (x : Value) (t : TypeId) (b : Nat) (hb : b = w.heap.size) : ∀ j u, [x][j]? = some u → (w.alloc (.cells #[x] t)).cell? ((⟨b, 0, none⟩ : Addr).add j) = some u := by
  subst hb
  intro j u hj
  have h := heap_alloc_new w (.cells [x].toArray t)
  match j, hj with
  | 0, hj => simp at hj; subst hj; exact row_cell (l := [x]) h (j := 0) rfl

theorem one_str' (x : ByteArray) : ∀ u ∈ [Value.string x], u.oneCell' = true := by
  intro u hu
  simp at hu
  subst hu; rfl

/-- the keys of both maps, sorted -/
theorem keys_sorted {lx lb : Pairs} {all : List M3} (hx : Keys lx all) (hb : ∀ k, (lk lb k).isSome = true ↔ ∃ m ∈ all, tx m.1 = k) (nx : (lx.map (·.1)).Nodup) (nb : (lb.map (·.1)).Nodup) {ts us : List ByteArray}
    (ht : ts.Perm (lx.map (·.1))) (hu : us.Perm (lb.map (·.1))) (gt : Growing ts) (gu : Growing us) : us = ts := by
  refine growing_unique (hu.trans (List.Perm.trans ?_ ht.symm)) gu gt
  refine (List.perm_ext_iff_of_nodup nb nx).2 fun k => ?_
  rw [← lk_isSome_iff, hb k, Keys.mem hx k]

theorem keys_len {lx : Pairs} {all : List M3} (h : ∀ k, (lk lx k).isSome = true ↔ ∃ m ∈ all, tx m.1 = k) (nx : (lx.map (·.1)).Nodup) : lx.length ≤ all.length := by
  have h1 := nodup_len (lx.map (·.1)) (all.map fun m => tx m.1) nx (fun k hk => by
    obtain ⟨m, hm, e⟩ := (h k).1 ((lk_isSome_iff lx k).2 hk)
    exact List.mem_map.2 ⟨m, hm, e⟩)
  simpa using h1

theorem RangeAt.setCell {w : World} {b r : Nat} {l : Pairs} {done : List ByteArray} (h : RangeAt w b r l done) (a : Addr) (u : Value) (hb : b ≠ a.block) (hr : r ≠ a.block) : RangeAt (w.setCell a u) b r l done :=
  h.kept (Below.heap_setCell _ _ _ _ hb) (Below.heap_setCell _ _ _ _ hr)

/-- cells of bindings: a key and its row -/
def bndV (ts : List ByteArray) (vs : List Value) : List Value := (ts.zip vs).flatMap fun p => [.string p.1, p.2]
theorem bndV_snoc (ts : List ByteArray) (vs : List Value) (k : ByteArray) (v : Value) (h : ts.length = vs.length) : bndV (ts ++ [k]) (vs ++ [v]) = bndV ts vs ++ [.string k, v] := by
  unfold bndV
  rw [List.zip_append h]
  simp
theorem bndV_length (ts : List ByteArray) (vs : List Value) (h : ts.length = vs.length) : (bndV ts vs).length = ts.length * 2 := by
  unfold bndV
  induction ts generalizing vs with
  | nil => simp
  | cons a r ih =>
    match vs, h with
    | v :: vs, h =>
      have := ih vs (by simpa using h)
      simp only [List.zip_cons_cons, List.flatMap_cons, List.length_append, List.length_cons, List.length_nil] at *
      omega
theorem bndV_at (ts : List ByteArray) (vs : List Value) (h : ts.length = vs.length) (j : Nat) (hj : j < ts.length) : (bndV ts vs)[j * 2]? = some (.string (ts.getD j ⟨#[]⟩)) ∧ (bndV ts vs)[j * 2 + 1]? = some (vs.getD j undef) := by
  induction ts generalizing vs j with
  | nil => simp at hj
  | cons a r ih =>
    match vs, h with
    | v :: vs, h =>
      match j with
      | 0 => simp [bndV, List.getD]
      | j + 1 =>
        have hh := ih vs (by simpa using h) j (by simp at hj; omega)
        have e : bndV (a :: r) (v :: vs) = [.string a, v] ++ bndV r vs := by simp [bndV]
        have e1 : (j + 1) * 2 = j * 2 + 2 := by omega
        rw [e, e1]
        refine ⟨?_, ?_⟩
        · rw [List.getElem?_append_right (by simp)]
          simpa [List.getD] using hh.1
        · rw [List.getElem?_append_right (by simp)]
          simpa [List.getD] using hh.2

/-- the rows of the bindings of each port -/
def Rows4 (X : Nat) (w : World) (all : List M3) (ts : List ByteArray) (vs : List Value) : Prop :=
  ∀ j, j < vs.length → w.ownsRow X 42 3 (vs.getD j undef) (sel (ts.getD j ⟨#[]⟩) all).length (m3V (sel (ts.getD j ⟨#[]⟩) all))

theorem Rows4.nil (X : Nat) (w : World) (all : List M3) (ts : List ByteArray) : Rows4 X w all ts [] := fun j hj => absurd hj (by simp)
theorem Rows4.snoc {X : Nat} {w : World} {all : List M3} {ts : List ByteArray} {vs : List Value} (h : Rows4 X w all ts vs) {v : Value} (hv : w.ownsRow X 42 3 v (sel (ts.getD vs.length ⟨#[]⟩) all).length (m3V (sel (ts.getD vs.length ⟨#[]⟩) all))) : Rows4 X w all ts (vs ++ [v]) := by
  intro j hj
  rw [List.length_append, List.length_singleton] at hj
  by_cases e : j < vs.length
  · have : (vs ++ [v]).getD j undef = vs.getD j undef := by simp [List.getD, List.getElem?_append_left e]
    rw [this]; exact h j e
  · obtain rfl : j = vs.length := by omega
    have : (vs ++ [v]).getD vs.length undef = v := by simp [List.getD]
    rw [this]; exact hv
theorem Rows4.same {X b : Nat} {w w' : World} {all : List M3} {ts : List ByteArray} {vs : List Value} (h : Rows4 X w all ts vs) (hs : Same X b w w') (hb : w.heap.size ≤ b) : Rows4 X w' all ts vs :=
  fun j hj => own_same (h j hj) hs (fun k hk => Nat.lt_of_lt_of_le (own_lt (h j hj) k hk) hb)

theorem Rows4.below {X : Nat} {w w' : World} {all : List M3} {ts : List ByteArray} {vs : List Value} (h : Rows4 X w all ts vs) (hb : Below w.heap.size w w') : Rows4 X w' all ts vs := fun j hj => own_below3 (h j hj) hb
theorem Rows4.setCell {X : Nat} {w : World} {all : List M3} {ts : List ByteArray} {vs : List Value} (h : Rows4 X w all ts vs) {a : Addr} (ha : a.block < X) (u : Value) : Rows4 X (w.setCell a u) all ts vs := fun j hj => ownsRow_setCell_below (h j hj) ha u
theorem Rows4.mono {X X' : Nat} {w : World} {all : List M3} {ts : List ByteArray} {vs : List Value} (h : Rows4 X w all ts vs) (hX : X' ≤ X) : Rows4 X' w all ts vs := fun j hj => own_lower3 (h j hj) hX

theorem cell_three_at (w : World) (x y z : Value) (t : TypeId) (b : Nat) (hb : b = w.heap.size) : ∀ j u, [x, y, z][j]? = some u → (w.alloc (.cells #[x, y, z] t)).cell? ((⟨b, 0, none⟩ : Addr).add j) = some u := by
  subst hb; exact cell_three_new w x y z t

theorem sel_mem (k : ByteArray) (all : List M3) (j : Nat) (h : j < (sel k all).length) : (sel k all).getD j ([], [], []) ∈ sel k all := by
  have e : (sel k all).getD j ([], [], []) = (sel k all)[j] := by simp [List.getD, List.getElem?_eq_getElem h]
  rw [e]; exact List.getElem_mem h

theorem take_next' (us : List ByteArray) (i : Nat) (h : i < us.length) : us.take (i + 1) = us.take i ++ [us.getD i ⟨#[]⟩] := by
  rw [List.take_succ_eq_append_getElem h]
  simp [List.getD, List.getElem?_eq_getElem h]

theorem two_any (x : ByteArray) (a : Option Addr) (n c : Nat) : ∀ u ∈ [Value.string x, Value.slice a n c], u.oneCell' = true := by
  intro u hu
  simp at hu
  rcases hu with rfl | rfl <;> rfl

/-- the append to the list of bindings leaves each port's row -/
theorem Rows4.kept {X : Nat} {w w' : World} {all : List M3} {ts : List ByteArray} {vs : List Value} {B n : Nat} {v : Value} {xs : List Value} (h : Rows4 X w all ts vs) (hv : w.ownsRow B 51 2 v n xs) (hg : w.grownBy w' v.ownBlock) : Rows4 X w' all ts vs := by
  intro j hj
  refine (h j hj).kept hg ?_
  cases e : (vs.getD j undef).ownBlock with
  | none => exact Or.inl rfl
  | some b =>
    right
    intro e'
    obtain ⟨c, fz, h1⟩ := ownsRow_kind (h j hj) b e
    obtain ⟨c', fz', h2⟩ := ownsRow_kind hv b e'.symm
    rw [h1] at h2
    simp only [Option.some.injEq, Obj.cells.injEq] at h2
    exact absurd h2.2.1 (by decide)
end Go.Proofs.YtdmggcbbfljciaaGreatDoor

/- impl.Specs at proper specifications. -/
namespace Go.Proofs.YtdmggcbbfljciaaGreatDoor
open Go.RowKit Go.Lib Go.MapKept

theorem info51 : (Tryz.prog.info? 51).map (fun i => (i.zero, i.size, i.bytes)) = some (some (.agg #[.string ⟨#[]⟩, .slice none 0 0]), 2, 40) := by kernel_rfl

set_option maxRecDepth 100000 in
set_option maxHeartbeats 16000000 in
theorem implSpecs_ok (ps : List Pub) (hps : ∀ p ∈ ps, p.Ok) (hn : ps.length ≤ 20) (B : Nat) (v : Value) (w : World) (hT : Tabs w)
    (hv : w.ownsRow B 9 1 v ps.length (strsV (ps.map fun p => tx p.text)))
    (hspec : ∀ p, p ∈ ps → ∀ W, Tabs W → Calls Tryz.prog 26 #[.string (tx p.text)] W fun e w' => ∃ g c : Nat, e = .returned (.tuple #[.slice (some ⟨g, 0, none⟩) p.ms.length c, .nilIface]) ∧ W.heap.size ≤ g ∧ M3At w' g p.ms ∧ Below W.heap.size W w') :
    Calls Tryz.prog 18 #[v] w fun e w' => ∃ (ts : List ByteArray) (pv bv : Value) (vs : List Value), e = .returned (.tuple #[pv, bv, .bool true]) ∧
      w'.ownsRow w.heap.size 9 1 pv ts.length (strsV ts) ∧ w'.ownsRow w.heap.size 51 2 bv ts.length (bndV ts vs) ∧ vs.length = ts.length ∧
      Growing ts ∧ ts.Nodup ∧ (∀ k, k ∈ ts ↔ ∃ m ∈ ps.flatMap Pub.ms, tx m.1 = k) ∧ Rows4 w.heap.size w' (ps.flatMap Pub.ms) ts vs ∧ Below w.heap.size w w' := by
  obtain ⟨i0, hi, hz0, hz1, hz2⟩ := info_parts info9
  have hFr := Lib.hid (Fr.new w)
  have Ht := Lib.hid hT
  have hmf : ∀ (fn : Fn) (first cap : Array Value) (w : World), (Instr.makeFunc fn first cap).run Tryz.prog w = .ok (.func fn first cap) w := fun _ _ _ _ => rfl
  have Hcl := Lib.hid (fun W h => clone_strs B v (ps.map fun p => tx p.text) W (by rw [List.length_map]; exact h) (by rw [List.length_map]; omega))
  have Hv := Lib.hid (own_below3 hv (below_al3 w (.cells #[.slice none 0 0] 45) (.cells #[.slice none 0 0] 46) (.cells #[.bool false] 4)))
  have Hps := Lib.hid (fun ao c W hW hx => parseSpecs_ok ps hps hn ao c W hW hx hspec)
  obtain ⟨all, hall⟩ : ∃ all, all = ps.flatMap Pub.ms := ⟨_, rfl⟩
  have HL : Hid (all.length ≤ 4020) := by show _ ≤ _; rw [hall]; have := flat_len ps hps; omega
  rw [← hall] at Hps ⊢
  have hlm : (ps.map fun p => tx p.text).length = ps.length := List.length_map _
  obtain ⟨n, hN⟩ : ∃ n, n = ps.length := ⟨_, rfl⟩
  have HN : Hid (n = ps.length) := hN
  rw [hlm, ← hN] at Hcl
  rw [← hN] at Hps Hv
  clear hT hv hall hps hspec hlm hN hn
  go_enter_defers Tryz.func18, Tryz.ntmps18
  go_wp2_with fail
  refine (Hcl.out _ Hv.out).mono ?_
  rintro e w1 ⟨ao, c, rfl, hown1, hb1⟩
  have hFr1 := Lib.hid (hFr.out.below hb1)
  have Hx : Hid (∀ i, i < n → ∃ g, ao = some ⟨g, 0, none⟩ ∧ g < w1.heap.size ∧ w1.cell? ⟨g, i, none⟩ = some (.string (tx (ps.getD i p0).text))) := by
    intro i hin
    have hi := hin
    rw [HN.out] at hi
    have h1 := hown1
    rw [HN.out, ← List.length_map (f := fun p : Pub => tx p.text)] at h1
    obtain ⟨_, g, rfl, _, hlt, hc⟩ := own_strs h1 (by rw [List.length_map]; omega)
    refine ⟨g, rfl, hlt, ?_⟩
    rw [hc i (by rw [List.length_map]; exact hi)]
    simp [List.getD, List.getElem?_eq_getElem hi]
  clear hown1 hb1 Hcl Hv
  go_wp2_with fail
  refine (Hps.out ao c w1 (Ht.out.below hFr1.out.be) Hx.out).mono ?_
  rintro e w2 ⟨lx, lb, rfl, hps⟩
  have hFr := Lib.hid (hFr1.out.below hps.be)
  have HP := Lib.hid hps
  have hn3 : w.heap.size + 3 ≤ w1.heap.size := hFr1.out.lt
  have Hkl := Lib.hid (keys_len hps.kx hps.mx.nodup)
  have Hkb := Lib.hid (keys_len hps.bi.keys hps.mb.nodup)
  have hb2s : w1.heap.size + 1 < w2.heap.size := hps.mb.lt
  clear hps Hx Hps hFr1
  go_wp2_with (at_range; refine wpList_rangeAt _ rfl _ 72 rfl 63 94 Tryz.underlying72 w1.heap.size lx rfl HP.out.mx ?_; intro w3 hrg hg3 hs3)
  go_frame
  have hFr := Lib.hid (hFr.out.grown hg3 (fun k hk => by cases hk))
  have HS3 : Hid (Same (w.heap.size + 3) w2.heap.size w2 w3) := Same.grown hg3 (Nat.le_refl _) (fun k hk => by cases hk)
  have Hrg := Lib.hid hrg
  clear hrg hg3 hs3
  go_loopg [8] (lx.length + 1) (fun m (_ : Value) wr => ∃ (done : List ByteArray) (pv : Value), Hid (m + done.length = lx.length + 1) ∧ Hid (RangeAt wr w1.heap.size w2.heap.size lx done) ∧ Hid (Fr w.heap.size w wr pv (.slice none 0 0)) ∧ Hid (wr.ownsRow (w2.heap.size + 1) 9 1 pv done.length (strsV done)) ∧ Hid (Same (w.heap.size + 3) w2.heap.size w2 wr))
  case atStart => exact ⟨[], _, (show _ = _ by simp), Hrg, hFr, World.ownsRow_nil _ _ _ _, HS3⟩
  case round =>
    obtain ⟨done, pv, hmc, hrg, hfr, hown, hsame⟩ := hrel
    clear Hrg hFr HS3
    have hown := hown.out
    obtain ⟨ao1, cc1, rfl⟩ := owns_shape3 hown
    go_wp2_with (at_next; refine wpList_nextAt _ rfl _ rfl w1.heap.size w2.heap.size lx done rfl hrg.out ?_ ?_)
    · intro hperm
      have hdl : done.length ≤ lx.length := hrg.out.len
      have Hown := Lib.hid hown
      have Hperm := Lib.hid hperm
      obtain ⟨c0, f0, c1, f1, c2, f2⟩ := hfr.out.cells
      have hl1 := Hkl.out
      have hl2 := HL.out
      clear hown hperm
      go_wp2_with fail
      refine (sort_own (w2.heap.size + 1) _ done wr Hown.out (by omega)).mono ?_
      rintro e w5 ⟨rfl, ts, hpt, hgr, hown5, hg5⟩
      have hge5 : ∀ k, (Value.slice ao1 done.length cc1).ownBlock = some k → w2.heap.size + 1 ≤ k := own_block_ge3 Hown.out
      have HFr5 := Lib.hid (hfr.out.grown hg5 (fun k hk => by have := hge5 k hk; omega))
      have HS5 : Hid (Same (w.heap.size + 3) w2.heap.size w2 w5) := hsame.out.trans (Same.grown hg5 (by have := hrg.out.lt; omega) (fun k hk => by have := hge5 k hk; omega))
      have HM5 : Hid (MapAt w5 (w1.heap.size + 1) lb) := HP.out.mb.kept (HS5.out.block _ (by omega) hb2s)
      have Hpx : Hid (ts.Perm (lx.map (·.1))) := hpt.trans Hperm.out
      have Hgx := Lib.hid hgr
      have hlen1 : done.length = ts.length := hpt.length_eq.symm
      have hs5 : w2.heap.size + 1 ≤ w5.heap.size := by have h1 := hrg.out.lt; have h2 := hg5.size; omega
      have Hown5 := Lib.hid hown5
      have Hlen1 := Lib.hid hlen1
      clear hfr hsame hrg hown5 hpt hgr hg5 Hperm Hown c0 f0 c1 f1 c2 f2 hge5 hlen1 hmc
      go_wp2_with (at_range; refine wpList_rangeAt _ rfl _ 73 rfl 63 78 Tryz.underlying73 (w1.heap.size + 1) lb rfl HM5.out ?_; intro w6 hrg hg6 hs6)
      go_frame
      have HFr6 := Lib.hid (HFr5.out.grown hg6 (fun k hk => by cases hk))
      have HS6 : Hid (Same (w.heap.size + 3) w5.heap.size w5 w6) := Same.grown hg6 (Nat.le_refl _) (fun k hk => by cases hk)
      have Hrg := Lib.hid hrg
      clear hrg hg6 hs6
      go_loopg [9] (lb.length + 1) (fun m kv wr => ∃ (done2 : List ByteArray), Hid (m + done2.length = lb.length + 1) ∧ Hid (RangeAt wr (w1.heap.size + 1) w5.heap.size lb done2) ∧ Hid (Fr w.heap.size w wr (.slice ao1 done.length cc1) (.slice none 0 0)) ∧ Hid (wr.ownsRow (w5.heap.size + 1) 9 1 kv done2.length (strsV done2)) ∧ Hid (Same (w.heap.size + 3) w5.heap.size w5 wr))
      case atStart => exact ⟨[], (show _ = _ by simp), Hrg, HFr6, World.ownsRow_nil _ _ _ _, HS6⟩
      case round =>
        obtain ⟨done2, hmc, hrg, hfr, hown, hsame⟩ := hrel
        clear Hrg HFr6 HS6
        have hown := hown.out
        obtain ⟨ao2, cc2, rfl⟩ := owns_shape3 hown
        have hl1 := Hkb.out
        go_wp2_with (at_next; refine wpList_nextAt _ rfl _ rfl (w1.heap.size + 1) w5.heap.size lb done2 rfl hrg.out ?_ ?_)
        · intro hperm
          have hdl := hrg.out.len
          have Hown := Lib.hid hown
          have Hperm := Lib.hid hperm
          clear hown hperm
          go_wp2_with fail
          refine (sort_own (w5.heap.size + 1) _ done2 wr Hown.out (by omega)).mono ?_
          rintro e w8 ⟨rfl, us, hpu, hgu, hown8, hg8⟩
          have hge8 : ∀ k, (Value.slice ao2 done2.length cc2).ownBlock = some k → w5.heap.size + 1 ≤ k := own_block_ge3 Hown.out
          have HFr8 := Lib.hid (hfr.out.grown hg8 (fun k hk => by have := hge8 k hk; omega))
          have HS8 : Hid (Same (w.heap.size + 3) w5.heap.size w5 w8) := hsame.out.trans (Same.grown hg8 (by have := hrg.out.lt; omega) (fun k hk => by have := hge8 k hk; omega))
          have hus : us = ts := keys_sorted HP.out.kx HP.out.bi.keys HP.out.mx.nodup HP.out.mb.nodup Hpx.out (hpu.trans Hperm.out) Hgx.out hgu
          subst hus
          obtain ⟨N, hNe⟩ : ∃ N, N = us.length := ⟨_, rfl⟩
          have HNt := Lib.hid hNe
          have hN2 : done2.length = N := by rw [hNe]; exact hpu.length_eq.symm
          have hN1 : done.length = N := by rw [hNe]; exact Hlen1.out
          have hs8 : w5.heap.size + 1 ≤ w8.heap.size := by have h1 := hrg.out.lt; have h2 := hg8.size; omega
          have HS28 : Hid (Same (w.heap.size + 3) w2.heap.size w2 w8) := HS5.out.trans (HS8.out.mono (Nat.le_refl _) (by omega))
          have HM8 : Hid (MapAt w8 (w1.heap.size + 1) lb) := HP.out.mb.kept (HS28.out.block _ (by omega) hb2s)
          have HB8 : Hid (Binds (w1.heap.size + 2) w8 lb all) := HP.out.bi.same (HS28.out.mono (by omega) (Nat.le_refl _)) (Nat.le_refl _)
          have HPo8 : Hid (w8.ownsRow (w2.heap.size + 1) 9 1 (.slice ao1 N cc1) N (strsV us)) := by
            have h := Hown5.out
            rw [hN1] at h
            exact own_same h (HS8.out.mono (by omega) (Nat.le_refl _)) (own_lt h)
          have HK : Hid (∀ i, i < N → ∃ g, ao2 = some ⟨g, 0, none⟩ ∧ g < w8.heap.size ∧ w.heap.size + 3 ≤ g ∧ w8.cell? ⟨g, i, none⟩ = some (.string (us.getD i ⟨#[]⟩))) := by
            intro i hi
            have h := hown8
            rw [hN2, hNe] at h
            obtain ⟨_, g, rfl, hg1, hg2, hc⟩ := own_strs h (by omega)
            exact ⟨g, rfl, hg2, by omega, hc i (by omega)⟩
          have Hkey : Hid (∀ k, k ∈ us ↔ ∃ m ∈ all, tx m.1 = k) := fun k => by rw [Hpx.out.mem_iff, Keys.mem HP.out.kx k]
          have Hnd : Hid us.Nodup := (Hpx.out.nodup_iff).2 HP.out.mx.nodup
          rw [hN1] at HFr8
          rw [hN2]
          have hN4 : N ≤ 4020 := by omega
          obtain ⟨j0, hj, hjz0, hjz1, hjz2⟩ := info_parts info42
          obtain ⟨q0, hq, hqz0, hqz1, hqz2⟩ := info_parts info51
          clear hge8 hfr hsame hrg hown8 hpu hgu hg8 Hperm Hown hNe hN1 hN2 HS28 HS8 HS5 HM5 Hpx Hlen1 Hown5 HP HFr5 hmc hdl hl1 hl2
          go_wp2_with fail
          go_loopg [52] (N + 1) (fun m iv wr => ∃ (i : Nat) (bv : Value) (vs : List Value), iv = .int .i64 i ∧ Hid (m + i = N + 1) ∧ i ≤ N ∧ Hid (vs.length = i) ∧ Hid (Fr w.heap.size w wr (.slice ao1 N cc1) bv) ∧ Hid (wr.ownsRow w8.heap.size 51 2 bv i (bndV (us.take i) vs)) ∧ Hid (Rows4 w8.heap.size wr all us vs) ∧ Hid (Same (w.heap.size + 3) w8.heap.size w8 wr))
          case atStart => exact ⟨0, _, [], rfl, rfl, Nat.zero_le _, rfl, HFr8, World.ownsRow_nil _ _ _ _, Rows4.nil _ _ _ _, Same.refl _ _ _⟩
          case round =>
            clear HFr8
            obtain ⟨G, hG⟩ : ∃ G, G = gk := ⟨_, rfl⟩
            subst hG
            obtain ⟨Wo, hWo⟩ : ∃ W, W = wr := ⟨_, rfl⟩
            subst hWo
            obtain ⟨i, bv, vs, rfl, hmc, hiN, hvs, hfr, hobv, hr4, hsame⟩ := hrel
            obtain ⟨aob, ccb, rfl⟩ := owns_shape3 hobv.out
            by_cases hin : i < N
            · have hlt : decide ((i : Int) < (N : Int)) = true := decide_eq_true (by omega)
              have p1 : (0 : Int) ≤ (i : Int) := by omega
              have p2 : (i : Int) < (N : Int) := by omega
              obtain ⟨g2, rfl, hg2, hg3, ck⟩ := HK.out i hin
              have ck := (show Wo.cell? ⟨g2, i, none⟩ = w8.cell? ⟨g2, i, none⟩ from World.cell?_of_block (w := w8) (hsame.out.block g2 hg3 hg2)).trans ck
              obtain ⟨k, hk⟩ : ∃ k, k = us.getD i ⟨#[]⟩ := ⟨_, rfl⟩
              have Hk := Lib.hid hk
              rw [← hk] at ck
              have hkm : k ∈ us := by
                have e : us.getD i ⟨#[]⟩ = us[i]'(by have := HNt.out; omega) := by simp [List.getD, List.getElem?_eq_getElem (show i < us.length by have := HNt.out; omega)]
                rw [hk, e]; exact List.getElem_mem _
              have hbs := hs8
              have hbi : Binds (w1.heap.size + 2) Wo lb all := HB8.out.same (hsame.out.mono (by omega) (Nat.le_refl _)) (Nat.le_refl _)
              have hmb : MapAt Wo (w1.heap.size + 1) lb := HM8.out.kept (hsame.out.block _ (by omega) HM8.out.lt)
              obtain ⟨u, hu⟩ := Option.isSome_iff_exists.1 ((hbi.keys k).2 ((Hkey.out k).1 hkm))
              obtain ⟨gB, cB, rfl, hB1, hB2⟩ := hbi.block hu
              have hrow := hbi.rows k _ hu
              have hcnt := sel_len k all
              have hcl := HL.out
              obtain ⟨cnt, hce⟩ : ∃ cnt, cnt = (sel k all).length := ⟨_, rfl⟩
              have Hcnt := Lib.hid hce
              rw [← hce] at hrow hu hcnt
              have Hrow := Lib.hid hrow
              have Hu := Lib.hid hu
              have hc4 : cnt ≤ 4020 := by omega
              clear hk hkm hbi hu hrow hce hcnt hcl
              go_wp2_with (at_lookup; (refine wpList_look _ rfl _ _ 73 rfl 63 78 Tryz.underlying73 Tryz.underlying63 (.slice none 0 0) (zero_binds _) (w1.heap.size + 1) lb rfl (hmb.alloc _) k rfl (.slice (some ⟨gB, 0, none⟩) cnt cB) (by rw [Hu.out]; rfl) ?_))
              have HFa := Lib.hid (hfr.out.alloc (.cells #[.string k, .slice none 0 0] 51))
              have HRa := Lib.hid (heap_alloc_new Wo (.cells #[.string k, .slice none 0 0] 51))
              have HSa := Lib.hid (Same.alloc (w.heap.size + 3) Wo.heap.size Wo (.cells #[.string k, .slice none 0 0] 51) (Nat.le_refl _))
              have hsO := hsame.out.size
              clear ck hmb
              go_loopg [62] (cnt + 1) (fun m jv wq => ∃ (j : Nat) (cv : Value), jv = .int .i64 j ∧ Hid (m + j = cnt + 1) ∧ j ≤ cnt ∧ Hid (Fr w.heap.size w wq (.slice ao1 N cc1) (.slice aob i ccb)) ∧ Hid (wq.heap[Wo.heap.size]? = some (.cells #[.string k, cv] 51 (0, 0))) ∧ Hid (wq.ownsRow (Wo.heap.size + 1) 42 3 cv j (m3V ((sel k all).take j))) ∧ Hid (Same (w.heap.size + 3) Wo.heap.size Wo wq))
              case atStart => exact ⟨0, _, rfl, rfl, Nat.zero_le _, HFa, HRa, World.ownsRow_nil _ _ _ _, HSa⟩
              case round =>
                clear HFa HRa HSa
                obtain ⟨j, cv, rfl, hmj, hjc, hfq, hrq, howq, hsq⟩ := hrel
                obtain ⟨aoc, ccc, rfl⟩ := owns_shape3 howq.out
                have hYl : Wo.heap.size < wr.heap.size := (Array.getElem?_eq_some_iff.1 hrq.out).1
                have k0 := row_cell (l := [.string k, .slice aoc j ccc]) hrq.out (j := 0) rfl
                have k1 := row_cell (l := [.string k, .slice aoc j ccc]) hrq.out (j := 1) rfl
                by_cases hjn : j < cnt
                · have hlt2 : decide ((j : Int) < (cnt : Int)) = true := decide_eq_true (by omega)
                  have p3 : (0 : Int) ≤ (j : Int) := by omega
                  have p4 : (j : Int) < (cnt : Int) := by omega
                  obtain ⟨m, hme⟩ : ∃ m, m = (sel k all).getD j ([], [], []) := ⟨_, rfl⟩
                  have Hnx : Hid ((sel k all).take (j + 1) = (sel k all).take j ++ [m]) := by rw [hme]; exact m3_snoc _ _ (by have := Hcnt.out; omega)
                  have Hmk : Hid (tx m.1 = k) := by rw [hme]; exact sel_key (sel_mem k all j (by have := Hcnt.out; omega))
                  have hd := m2V_at (sel k all) j (by have := Hcnt.out; omega)
                  rw [← hme] at hd
                  have d0 : wr.cell? ⟨gB, j * 2, none⟩ = some (.string (tx m.2.1)) := by
                    rw [World.cell?_of_block (w := Wo) (hsq.out.block gB (by omega) hB2), Hrow.out.cellAt (j * 2) (by omega)]; exact hd.1
                  have d1 : wr.cell? ⟨gB, j * 2 + 1, none⟩ = some (.string (tx m.2.2)) := by
                    rw [World.cell?_of_block (w := Wo) (hsq.out.block gB (by omega) hB2), Hrow.out.cellAt (j * 2 + 1) (by omega)]; exact hd.2
                  clear hme hd
                  go_wp2_with (at_builtin; (refine wpList_append_lies _ rfl (.tmp 67) (.tmp 74) 28 rfl (Wo.heap.size + 1) 42 j0 (.agg #[.string ⟨#[]⟩, .string ⟨#[]⟩, .string ⟨#[]⟩]) 3 48 Tryz.underlying28 hj hjz0 hjz1 hjz2 rfl (by decide) _ _ _ rfl ((howq.out.alloc _).alloc _) ⟨_, 0, none⟩ 1 1 [.string k, .string (tx m.2.1), .string (tx m.2.2)] rfl rfl (cell_three_at _ _ _ _ _ _ (by simp)) (three_str _ _ _) (by decide) (by unfold maxLen; omega) (by omega) (by simp; omega) _ rfl ?_); intro gq cq w9 hown9 hg9 hat9 hlt9; have hge9 : ∀ k, (Value.slice aoc j ccc).ownBlock = some k → Wo.heap.size + 1 ≤ k := own_block_ge3 howq.out; have r9 := own_cells3 (((below_al2 wr (.cells #[.string (tx m.2.1), .string (tx m.2.2)] 65) (.cells #[.string k, .string (tx m.2.1), .string (tx m.2.2)] 42)).block _ hYl).trans hrq.out) hg9 (fun k hk => by have := hge9 k hk; omega); have k1 := row_cell (l := [.string k, .slice aoc j ccc]) r9 (j := 1) rfl; have f1 := row_free (l := [.string k, .slice aoc j ccc]) r9 1)
                  go_roundg (gk - 1)
                  case measure => have := hmj.out; omega
                  case rel =>
                    have e1 := hmj.out
                    refine ⟨j + 1, .slice (some ⟨gq, 0, none⟩) (j + 1) cq, by go_num, (show _ = _ by omega), by omega, ?_, ?_, ?_, ?_⟩
                    · exact ((hfq.out.below (below_al2 wr (.cells #[.string (tx m.2.1), .string (tx m.2.2)] 65) (.cells #[.string k, .string (tx m.2.1), .string (tx m.2.2)] 42))).grown hg9 (fun k hk => by have := hge9 k hk; omega)).far (by show _ ≤ Wo.heap.size; omega) _
                    · show _ = _
                      rw [heap_setCell_same _ _ _ _ _ _ r9]; rfl
                    · show World.ownsRow _ _ _ _ _ _ _
                      rw [Hnx.out, m3V_snoc, Hmk.out]
                      exact ownsRow_setCell_below hown9 (by show Wo.heap.size < _; omega) _
                    · exact hsq.out.trans (((Same.of_below ((below_al2 wr (.cells #[.string (tx m.2.1), .string (tx m.2.2)] 65) (.cells #[.string k, .string (tx m.2.1), .string (tx m.2.2)] 42)).mono (by omega))).trans (Same.grown hg9 (by simp; omega) (fun k hk => by have := hge9 k hk; omega))).trans (Same.setCell _ _ _ _ _ (Or.inr (Nat.le_refl _))))
                · obtain rfl : j = cnt := by omega
                  have hlt2 : decide ((j : Int) < (j : Int)) = false := by simp
                  have hownB := own_same hobv.out (hsq.out.mono (by omega) (Nat.le_refl _)) (own_lt hobv.out)
                  obtain ⟨-, -, c1, f1, -⟩ := hfq.out.cells
                  have Hcv : Hid (wr.ownsRow w8.heap.size 42 3 (.slice aoc j ccc) (sel k all).length (m3V (sel k all))) := by
                    have h := howq.out
                    rw [Hcnt.out, List.take_length] at h
                    rw [← Hcnt.out] at h ⊢
                    exact own_lower3 h (by omega)
                  go_wp2_with (at_builtin; (refine wpList_append_lies _ rfl (.tmp 78) (.tmp 80) 46 rfl w8.heap.size 51 q0 (.agg #[.string ⟨#[]⟩, .slice none 0 0]) 2 40 Tryz.underlying46 hq hqz0 hqz1 hqz2 rfl (by decide) _ _ _ rfl (hownB.alloc _) ⟨_, 0, none⟩ 1 1 [.string k, .slice aoc j ccc] rfl rfl (cell_two_at _ _ _ _ _ (by simp)) (two_any _ _ _ _) (by decide) (by unfold maxLen; omega) (by omega) (by simp; omega) _ rfl ?_); intro gq cq w9 hown9 hg9 hat9 hlt9; have hge9 : ∀ k, (Value.slice aob i ccb).ownBlock = some k → w8.heap.size ≤ k := own_block_ge3 hownB; have hf9 := (hfq.out.alloc (.cells #[.string k, .slice aoc j ccc] 51)).grown hg9 (fun k hk => by have := hge9 k hk; omega); obtain ⟨-, -, c1, f1, -⟩ := hf9.cells)
                  go_roundg (G - 1)
                  case measure => have := hmc.out; omega
                  case rel =>
                    have e1 := hmc.out
                    have hvl := hvs.out
                    have hil : i < us.length := by have := HNt.out; omega
                    refine ⟨i + 1, .slice (some ⟨gq, 0, none⟩) (i + 1) cq, vs ++ [.slice aoc j ccc], by go_num, (show _ = _ by omega), by omega, (show _ = _ by rw [List.length_append, List.length_singleton]; omega), hf9.put1 _, ?_, ?_, ?_⟩
                    · show World.ownsRow _ _ _ _ _ _ _
                      rw [take_next' us i hil, ← Hk.out, bndV_snoc _ _ _ _ (by rw [List.length_take]; omega)]
                      exact ownsRow_setCell_below hown9 (by show w.heap.size + 1 < _; omega) _
                    · have R1 := (hr4.out.same (hsq.out.mono (by omega) (Nat.le_refl _)) (Nat.le_refl _)).snoc (v := .slice aoc j ccc) (by rw [hvl, ← Hk.out]; exact Hcv.out)
                      exact ((R1.below ((Below.refl _ _).alloc (Nat.le_refl _) (.cells #[.string k, .slice aoc j ccc] 51))).kept (hownB.alloc _) hg9).setCell (by show w.heap.size + 1 < _; omega) _
                    · exact hsame.out.trans ((hsq.out.mono (Nat.le_refl _) (by omega)).trans (((Same.alloc _ _ _ (.cells #[.string k, .slice aoc j ccc] 51) (by omega)).trans (Same.grown hg9 (by simp; omega) (fun k hk => by have := hge9 k hk; omega))).trans (Same.setCell _ _ _ _ _ (Or.inl (by show w.heap.size + 1 < _; omega)))))
            · obtain rfl : i = N := by omega
              have hlt : decide ((i : Int) < (i : Int)) = false := by simp
              obtain ⟨c0, f0, c1, f1, c2, f2⟩ := hfr.out.cells
              have hne : (w.heap.size = w.heap.size + 1) = False := by simp
              go_upto_region 27 with fail
              refine wp_region_noPanic ?_
              go_region
              refine NoPanic.normal ?_
              go_wp2_with fail
              refine leaves_cons (f := 32) (args := #[.pointer (some ⟨w.heap.size, 0, none⟩), .pointer (some ⟨w.heap.size + 1, 0, none⟩), .pointer (some ⟨w.heap.size + 1 + 1, 0, none⟩)]) (by simp) (by simp [go_sem]) ?_
              refine (specsGuard_idle ⟨w.heap.size, 0, none⟩ ⟨w.heap.size + 1, 0, none⟩ ⟨w.heap.size + 1 + 1, 0, none⟩ _).mono ?_
              rintro e u' w'' ⟨rfl, rfl, rfl⟩
              simp [Leaves, settle, results, Tryz.results18, go_sem, c0, c1, c2, f0, f1, f2]
              have hil := HNt.out
              have hO := hsame.out.size
              refine ⟨us, _, _, ⟨rfl, rfl⟩, ?_, vs, ?_, hvs.out.trans hil, Hgx.out, Hnd.out, ?_, ?_, ?_⟩
              · rw [← hil]
                have h := own_same HPo8.out (hsame.out.mono (by omega) (Nat.le_refl _)) (own_lt HPo8.out)
                exact own_lower3 (ownsRow_setCell_below (ownsRow_setCell_below (ownsRow_setCell_below h (by show w.heap.size < _; omega) _) (by show w.heap.size + 1 < _; omega) _) (by show w.heap.size + 1 + 1 < _; omega) _) (by omega)
              · rw [← hil]
                have h := hobv.out
                rw [List.take_of_length_le (by omega)] at h
                exact own_lower3 (ownsRow_setCell_below (ownsRow_setCell_below (ownsRow_setCell_below h (by show w.heap.size < _; omega) _) (by show w.heap.size + 1 < _; omega) _) (by show w.heap.size + 1 + 1 < _; omega) _) (by omega)
              · intro k
                rw [Hkey.out k]
                constructor
                · rintro ⟨m, hm, e⟩; exact ⟨m.1, ⟨m.2.1, m.2.2, hm⟩, e⟩
                · rintro ⟨a, ⟨b, c, hm⟩, e⟩; exact ⟨(a, b, c), hm, e⟩
              · exact (((hr4.out.setCell (by show w.heap.size < _; omega) _).setCell (by show w.heap.size + 1 < _; omega) _).setCell (by show w.heap.size + 1 + 1 < _; omega) _).mono (X' := w.heap.size) (by omega)
              · exact (((hfr.out.be.setCell (Nat.le_refl _) _).setCell (Nat.le_succ _) _).setCell (by show _ ≤ w.heap.size + 1 + 1; omega) _).drew
        · intro k v4 w4 hnk hkl hlt4 hrg4 hg4 hs4 hen
          have hown4 := hown.kept hg4 (by
            right
            intro e
            have := (hown.lt _ e).1
            omega)
          have Hfr4 := Lib.hid (hfr.out.grown hg4 (fun k hk => by cases hk; omega))
          have Hsame4 := Lib.hid (hsame.out.trans (Same.grown hg4 (by have := hrg.out.lt; omega) (fun k hk => by cases hk; exact Or.inl (Nat.le_refl _))))
          have Hrg4 := Lib.hid hrg4
          have hlt5 := hrg4.lt
          clear hrg4 hg4 hrg hfr hsame hkl hnk hs4
          go_wp2_with (at_builtin; (refine wpList_append_lies _ rfl (.tmp 44) (.tmp 46) 45 rfl (w5.heap.size + 1) 9 i0 (.string ⟨#[]⟩) 1 16 Tryz.underlying45 hi hz0 hz1 hz2 rfl (by decide) _ _ _ rfl (hown4.alloc _) ⟨_, 0, none⟩ 1 1 [.string k] rfl rfl (cell_one_at _ _ _ _ (by simp)) (one_str' _) (by decide) (by unfold maxLen; omega) (by omega) (by simp; omega) _ rfl ?_); intro gq cq w9 hown9 hg9 hat9 hlt9)
          go_roundg (gk - 1)
          case measure => have := hmc.out; omega
          case rel =>
            have e1 := hmc.out
            have hge : ∀ k, (Value.slice ao2 done2.length cc2).ownBlock = some k → w5.heap.size + 1 ≤ k := own_block_ge3 hown4
            refine ⟨done2 ++ [k], (show _ = _ by rw [List.length_append, List.length_singleton]; omega), ?_, ?_, ?_, ?_⟩
            · exact (Hrg4.out.alloc (.cells #[.string k] 9)).grown hg9 (fun e => by have := hge _ e.symm; omega) (fun e => by have := hge _ e.symm; omega)
            · exact (Hfr4.out.alloc (.cells #[.string k] 9)).grown hg9 (fun k hk => by have := hge k hk; omega)
            · show World.ownsRow _ _ _ _ _ _ _
              rw [strsV_snoc, List.length_append]
              exact hown9
            · exact Hsame4.out.trans ((Same.alloc _ _ _ (.cells #[.string k] 9) (by omega)).trans (Same.grown hg9 (by simp; omega) (fun k hk => by have := hge k hk; omega)))
    · intro k v4 w4 hnk hkl hlt4 hrg4 hg4 hs4 hen
      have hl1 := Hkl.out
      have hl2 := HL.out
      have hfr4 := hfr.out.grown hg4 (fun k hk => by cases hk; omega)
      have hown4 := hown.kept hg4 (by
        right
        intro e
        have := (hown.lt _ e).1
        omega)
      have hsame4 := hsame.out.trans (Same.grown hg4 (by have := hrg.out.lt; omega) (fun k hk => by cases hk; exact Or.inl (Nat.le_refl _)))
      have Hrg4 := Lib.hid hrg4
      have Hsame4 := Lib.hid hsame4
      obtain ⟨c0, f0, -⟩ := hfr4.cells
      have hlt5 := hrg4.lt
      clear hrg4 hg4 hrg hfr hsame hkl hnk hs4 hsame4
      go_wp2_with (at_builtin; (refine wpList_append_lies _ rfl (.tmp 32) (.tmp 34) 45 rfl (w2.heap.size + 1) 9 i0 (.string ⟨#[]⟩) 1 16 Tryz.underlying45 hi hz0 hz1 hz2 rfl (by decide) _ _ _ rfl (hown4.alloc _) ⟨_, 0, none⟩ 1 1 [.string k] rfl rfl (cell_one_at _ _ _ _ (by simp)) (one_str' _) (by decide) (by unfold maxLen; omega) (by omega) (by simp; omega) _ rfl ?_); intro gq cq w5 hown5 hg5 hat5 hlt6; have hge : ∀ k, (Value.slice ao1 done.length cc1).ownBlock = some k → w2.heap.size + 1 ≤ k := own_block_ge3 hown4; have hfr5 := (hfr4.alloc (.cells #[.string k] 9)).grown hg5 (fun k hk => by have := hge k hk; omega); obtain ⟨c0, f0, -⟩ := hfr5.cells)
      go_roundg (gk - 1)
      case measure => have := hmc.out; omega
      case rel =>
        have e1 := hmc.out
        refine ⟨done ++ [k], _, (show _ = _ by rw [List.length_append, List.length_singleton]; omega), ?_, hfr5.put0 _, ?_, ?_⟩
        · exact ((Hrg4.out.alloc (.cells #[.string k] 9)).grown hg5 (fun e => by have := hge _ e.symm; omega) (fun e => by have := hge _ e.symm; omega)).setCell _ _ (by show _ ≠ w.heap.size; omega) (by show _ ≠ w.heap.size; omega)
        · show World.ownsRow _ _ _ _ _ _ _
          rw [strsV_snoc, List.length_append]
          exact ownsRow_setCell_below hown5 (by show w.heap.size < _; omega) _
        · exact Hsame4.out.trans (((Same.alloc _ _ _ (.cells #[.string k] 9) (by omega)).trans (Same.grown hg5 (by simp; omega) (fun k hk => by have := hge k hk; omega))).trans (Same.setCell _ _ _ _ _ (Or.inl (by show w.heap.size < _; omega))))
end Go.Proofs.YtdmggcbbfljciaaGreatDoor
