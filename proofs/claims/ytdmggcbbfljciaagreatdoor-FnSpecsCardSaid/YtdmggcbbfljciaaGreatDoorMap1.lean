/- maps keyed by strings: what a block holds; looked up, stored into, counted; what stands at a key. -/
import Derived.Test.YtdmggcbbfljciaaGreatDoorWorks
import Derived.WalkKit
import Derived.Below
import Derived.Lib.Hide
import Derived.Maps.RangeWalk
namespace Go.Proofs.YtdmggcbbfljciaaGreatDoor
open Go.RowKit Go.Lib Go.MapKept
open Go.ChangeMaps (setBlock)

/-- the pairs of a map, in the order in which they were laid -/
abbrev Pairs := List (ByteArray × Value)

/-- what stands at a key -/
def lk (l : Pairs) (k : ByteArray) : Option Value := (l.find? fun p => decide (p.1 = k)).map (·.2)

/-- the pairs with one key's value laid anew -/
def putP (l : Pairs) (k : ByteArray) (v : Value) : Pairs := if (lk l k).isSome then l.map fun p => if p.1 = k then (k, v) else p else l ++ [(k, v)]

theorem lk_nil (k : ByteArray) : lk [] k = none := rfl
theorem lk_cons (p : ByteArray × Value) (l : Pairs) (k : ByteArray) : lk (p :: l) k = if p.1 = k then some p.2 else lk l k := by
  unfold lk
  by_cases h : p.1 = k <;> simp [h]

theorem lk_append (l r : Pairs) (k : ByteArray) : lk (l ++ r) k = (lk l k).or (lk r k) := by
  induction l with
  | nil => simp [lk_nil]
  | cons p l ih =>
    rw [List.cons_append, lk_cons, lk_cons, ih]
    split <;> simp

theorem lk_set (l : Pairs) (k : ByteArray) (v : Value) (k' : ByteArray) : lk (l.map fun p => if p.1 = k then (k, v) else p) k' = if k' = k then (lk l k).map fun _ => v else lk l k' := by
  induction l with
  | nil => simp [lk_nil]
  | cons p l ih =>
    rw [List.map_cons, lk_cons, lk_cons, lk_cons, ih]
    by_cases h1 : p.1 = k
    · by_cases h2 : k' = k
      · simp [h1, h2]
      · have h3 : ¬ k = k' := fun e => h2 e.symm
        simp [h1, h2, h3]
    · by_cases h2 : k' = k
      · simp [h1, h2]
      · simp [h1, h2]

theorem lk_put (l : Pairs) (k : ByteArray) (v : Value) (k' : ByteArray) : lk (putP l k v) k' = if k' = k then some v else lk l k' := by
  unfold putP
  split
  · rename_i h
    rw [lk_set]
    obtain ⟨u, hu⟩ := Option.isSome_iff_exists.1 h
    rw [hu]; rfl
  · rename_i h
    rw [lk_append, lk_cons, lk_nil]
    have hn : lk l k = none := by simpa using h
    by_cases h2 : k' = k
    · subst h2; simp [hn]
    · have h3 : ¬ k = k' := fun e => h2 e.symm
      simp [h2, h3]

theorem lk_some_mem {l : Pairs} {k : ByteArray} {v : Value} (h : lk l k = some v) : (k, v) ∈ l := by
  induction l with
  | nil => cases h
  | cons p l ih =>
    rw [lk_cons] at h
    split at h
    · rename_i h1
      cases h
      cases p
      simp at h1
      subst h1
      exact List.mem_cons_self
    · exact List.mem_cons_of_mem _ (ih h)

theorem lk_none_iff {l : Pairs} {k : ByteArray} : lk l k = none ↔ ∀ p ∈ l, p.1 ≠ k := by
  unfold lk
  rw [Option.map_eq_none_iff, List.find?_eq_none]
  simp

/-- block b is a map that holds these pairs -/
def MapAt (w : World) (b : Nat) (l : Pairs) : Prop :=
  ∃ es clock, w.heap[b]? = some (.map es clock) ∧ Stamped es clock ∧ es.toList.map (fun e => (e.key, e.val)) = l.map (fun p => (Value.string p.1, p.2))

theorem MapAt.lt {w : World} {b : Nat} {l : Pairs} (h : MapAt w b l) : b < w.heap.size := by
  obtain ⟨es, c, hb, _⟩ := h
  exact (Array.getElem?_eq_some_iff.1 hb).1

theorem MapAt.kept {w w' : World} {b : Nat} {l : Pairs} (h : MapAt w b l) (hb : w'.heap[b]? = w.heap[b]?) : MapAt w' b l := by
  obtain ⟨es, c, h1, h2⟩ := h
  exact ⟨es, c, hb.trans h1, h2⟩

theorem MapAt.below {w w' : World} {B b : Nat} {l : Pairs} (h : MapAt w b l) (hb : Below B w w') (hB : b < B) : MapAt w' b l := h.kept (hb.block b hB)

theorem MapAt.alloc {w : World} {b : Nat} {l : Pairs} (h : MapAt w b l) (o : Obj) : MapAt (w.alloc o) b l := h.kept (Below.heap_alloc _ _ _ h.lt)

theorem MapAt.made (w : World) : MapAt (w.alloc (.map #[] 0)) w.heap.size [] := ⟨#[], 0, (MapKept.heap_alloc w _).1, stamped_empty 0, rfl⟩

theorem keys_string {es : Array MapEntry} {l : Pairs} (h : es.toList.map (fun e => (e.key, e.val)) = l.map (fun p => (Value.string p.1, p.2))) : ∀ x ∈ es.toList, IsKey .string x.key := by
  intro x hx
  have : (x.key, x.val) ∈ l.map (fun p => (Value.string p.1, p.2)) := h ▸ List.mem_map.2 ⟨x, hx, rfl⟩
  obtain ⟨p, _, e⟩ := List.mem_map.1 this
  rw [← (Prod.mk.inj e).1]; trivial

theorem MapAt.nodup {w : World} {b : Nat} {l : Pairs} (h : MapAt w b l) : (l.map (·.1)).Nodup := by
  obtain ⟨es, c, _, hs, he⟩ := h
  have h3 := hs.2.2
  have e1 : es.toList.map (·.key) = (l.map (·.1)).map Value.string := by
    have := congrArg (List.map Prod.fst) he
    simpa [List.map_map, Function.comp_def] using this
  rw [e1, List.Nodup, List.pairwise_map] at h3
  exact h3.imp fun hne e => hne (by rw [e])

/-- the search for a key -/
theorem find_pairs {es : Array MapEntry} {l : Pairs} (h : es.toList.map (fun e => (e.key, e.val)) = l.map (fun p => (Value.string p.1, p.2))) (hn : (l.map (·.1)).Nodup) (k : ByteArray) :
    (Instr.findNow .string (.string k) es.toList 0 = some none ∧ lk l k = none ∧ ∀ x ∈ es.toList, x.key ≠ .string k) ∨
    ∃ j e, Instr.findNow .string (.string k) es.toList 0 = some (some (j, e.val)) ∧ es.toList[j]? = some e ∧ e.key = .string k ∧ lk l k = some e.val ∧ l[j]? = some (k, e.val) := by
  rcases findNow_spec (d := .string) (k := .string k) trivial es.toList 0 (keys_string h) with ⟨h1, h2⟩ | ⟨j, e, h1, h2, h3⟩
  · refine Or.inl ⟨h1, lk_none_iff.2 fun p hp e => ?_, h2⟩
    have : (Value.string p.1, p.2) ∈ es.toList.map (fun e => (e.key, e.val)) := h ▸ List.mem_map.2 ⟨p, hp, rfl⟩
    obtain ⟨x, hx, ex⟩ := List.mem_map.1 this
    exact h2 x hx (by rw [(Prod.mk.inj ex).1, e])
  · have hl : l[j]? = some (k, e.val) := by
      have h4 := congrArg (fun z => z[j]?) h
      simp only [List.getElem?_map, h2, Option.map_some] at h4
      cases hp : l[j]? with
      | none => rw [hp] at h4; cases h4
      | some p =>
        rw [hp] at h4
        simp only [Option.map_some, Option.some.injEq, Prod.mk.injEq] at h4
        rw [h3] at h4
        obtain ⟨a, b⟩ := p
        simp only [Value.string.injEq] at h4
        rw [h4.1, h4.2]
    refine Or.inr ⟨j, e, by simpa using h1, h2, h3, ?_, hl⟩
    have hm := List.mem_of_getElem? hl
    clear h1 h2 h3 hl h
    induction l with
    | nil => cases hm
    | cons p l ih =>
      rw [lk_cons]
      rw [List.map_cons, List.nodup_cons] at hn
      rcases List.mem_cons.1 hm with e1 | hm'
      · rw [← e1]; simp
      · have : p.1 ≠ k := fun e1 => hn.1 (by rw [e1]; exact List.mem_map.2 ⟨_, hm', rfl⟩)
        rw [if_neg this]
        exact ih hn.2 hm'

/-- 'm[k]', with its ok or without -/
theorem MapAt.look {P : Program} {w : World} {b : Nat} {l : Pairs} (h : MapAt w b l) {t k e : TypeId} (ht : P.underlying t = some (.map k e)) (hk : P.underlying k = some .string) {z : Value} (hz : (zeroValue e).run P w = .ok z w) (key : ByteArray) (c : Bool) :
    (Instr.lookup t (.map (some b)) (.string key) c).run P w = .ok (if c then .tuple #[(lk l key).getD z, .bool (lk l key).isSome] else (lk l key).getD z) w := by
  have hn := h.nodup
  obtain ⟨es, clock, hb, hs, he⟩ := h
  have hkey : IsKey .string (.string key) := trivial
  rcases find_pairs he hn key with ⟨h1, h2, _⟩ | ⟨j, e0, h1, _, _, h2, _⟩
  · simp [Instr.lookup, run_underlying ht, MapKept.run_getObj_map hb, run_checkKey hk hkey, run_findKey hk h1, hz, Result.andThen, h2]
  · simp [Instr.lookup, run_underlying ht, MapKept.run_getObj_map hb, run_checkKey hk hkey, run_findKey hk h1, Result.andThen, h2]

/-- w' is w but for the map in block b -/
theorem setBlock_grown {w : World} {b : Nat} {es : Array MapEntry} {c : Nat} (hb : w.heap[b]? = some (.map es c)) (o : Obj) : w.grownBy (setBlock w b o) (some b) :=
  ⟨rfl, rfl, rfl, by simp [setBlock], fun i _ hi => ChangeMaps.heap_setBlock_other hb _ (fun e => hi (by rw [e]))⟩

/-- 'm[k] = v' -/
theorem MapAt.store {P : Program} {w : World} {b : Nat} {l : Pairs} (h : MapAt w b l) {t k e : TypeId} (ht : P.underlying t = some (.map k e)) (hk : P.underlying k = some .string) (key : ByteArray) (v : Value) :
    ∃ w', (Instr.mapUpdate t (.map (some b)) (.string key) v).run P w = .ok () w' ∧ MapAt w' b (putP l key v) ∧ w.grownBy w' (some b) := by
  have hn := h.nodup
  obtain ⟨es, clock, hb, hs, he⟩ := h
  have hkey : IsKey .string (.string key) := trivial
  rcases find_pairs he hn key with ⟨h1, h2, h3⟩ | ⟨j, e0, h1, h2, h3, h4, h5⟩
  · refine ⟨setBlock w b (.map (es.push ⟨.string key, v, clock⟩) (clock + 1)), ?_, ⟨_, _, ChangeMaps.heap_setBlock_same hb _, stamped_push hs h3, ?_⟩, setBlock_grown hb _⟩
    · simp [Instr.mapUpdate, run_underlying ht, MapKept.run_getObj_map hb, run_checkKey hk hkey, run_findKey hk h1, MapKept.run_setObj_map _ hb, Result.andThen, setBlock]
    · simp [putP, h2, he]
  · have hj : es[j]? = some e0 := by simpa using h2
    have hlist : (es.modify j (fun e' => { e' with key := .string key, val := v })).toList = es.toList.set j { e0 with key := .string key, val := v } := by rw [Array.toList_modify, ChangeMaps.modify_eq_set _ _ _ _ h2]
    refine ⟨setBlock w b (.map (es.modify j (fun e' => { e' with key := .string key, val := v })) clock), ?_, ⟨_, _, ChangeMaps.heap_setBlock_same hb _, stamped_modify hs _ _ (fun _ _ => rfl) (fun e' _ he' => by rw [hj] at he'; cases he'; exact h3.symm), ?_⟩, setBlock_grown hb _⟩
    · simp [Instr.mapUpdate, run_underlying ht, MapKept.run_getObj_map hb, run_checkKey hk hkey, run_findKey hk h1, hj, h3, run_keyThatStays hkey, MapKept.run_setObj_map _ hb, Result.andThen, setBlock]
    · rw [hlist, List.map_set, he]
      simp only [putP, h4, Option.isSome_some, if_true]
      have hjl : j < l.length := (List.getElem?_eq_some_iff.1 h5).1
      apply List.ext_getElem?
      intro i
      rw [List.getElem?_map, List.getElem?_map, List.getElem?_set, List.getElem?_map]
      by_cases hij : j = i
      · subst hij
        rw [if_pos rfl, h5]
        simp [hjl]
      · rw [if_neg hij]
        cases hp : l[i]? with
        | none => rfl
        | some p =>
          have hpk : p.1 ≠ key := by
            intro e1
            have hil : i < l.length := (List.getElem?_eq_some_iff.1 hp).1
            have g1 : (l.map (·.1))[i]'(by simpa using hil) = key := by
              rw [List.getElem_map, (List.getElem?_eq_some_iff.1 hp).2, e1]
            have g2 : (l.map (·.1))[j]'(by simpa using hjl) = key := by
              rw [List.getElem_map, (List.getElem?_eq_some_iff.1 h5).2]
            exact hij ((List.getElem_inj hn).1 (g2.trans g1.symm))
          simp [hpk]

/-- 'len(m)' -/
theorem MapAt.len {P : Program} {w : World} {b : Nat} {l : Pairs} (h : MapAt w b l) {t k e : TypeId} (ht : P.underlying t = some (.map k e)) (ty : TypeId) : (Builtin.len_ #[t] ty #[.map (some b)]).run P w = .ok (.int .i64 l.length) w := by
  obtain ⟨es, clock, hb, hs, he⟩ := h
  have e1 : l.length = es.size := by have := congrArg List.length he; simpa using this.symm
  rw [e1]
  simp [Builtin.len_, run_underlying ht, MapKept.run_getObj_map hb, goInt, Result.andThen]

/-- 'm[k] = v' at the operation -/
theorem wpList_store {P : Program} (w : World) {ops : Array Oper} {rest : List Oper} {o : Oper} {a : Act} {Q : Exit → Act → World → Prop}
    (hg : o.guard = none) (m x v : Operand) (t : TypeId) (hop : o.op = Op.mapUpdate t m x v) (k e : TypeId) (ht : P.underlying t = some (.map k e)) (hk : P.underlying k = some .string)
    (b : Nat) (l : Pairs) (hm : a.eval m = .map (some b)) (h : MapAt w b l) (key : ByteArray) (val : Value) (hx : a.eval x = .string key) (hv : a.eval v = val)
    (hK : ∀ w', MapAt w' b (putP l key val) → w.grownBy w' (some b) → wpList P ops Q rest (a.put o.dst undef) w') : wpList P ops Q (o :: rest) a w := by
  refine wpList_plain hg fun K' hK' => ?_
  obtain ⟨w', hrun, r1, r2⟩ := h.store ht hk key val
  unfold Oper.wp
  simp [execOp, hop, hm, hx, hv, hrun, Result.andThen]
  exact hK' _ _ (hK w' r1 r2)

/-- an entry of a map that is written out, at the operation -/
theorem wpList_insert {P : Program} (w : World) {ops : Array Oper} {rest : List Oper} {o : Oper} {a : Act} {Q : Exit → Act → World → Prop}
    (hg : o.guard = none) (m x v : Operand) (t : TypeId) (hop : o.op = Op.insert t m x v) (k e : TypeId) (ht : P.underlying t = some (.map k e)) (hk : P.underlying k = some .string)
    (b : Nat) (l : Pairs) (hm : a.eval m = .map (some b)) (h : MapAt w b l) (key : ByteArray) (val : Value) (hx : a.eval x = .string key) (hv : a.eval v = val)
    (hK : ∀ w', MapAt w' b (putP l key val) → w.grownBy w' (some b) → wpList P ops Q rest (a.put o.dst undef) w') : wpList P ops Q (o :: rest) a w := by
  refine wpList_plain hg fun K' hK' => ?_
  obtain ⟨w', hrun, r1, r2⟩ := h.store ht hk key val
  unfold Oper.wp
  simp [execOp, hop, hm, hx, hv, hrun, Result.andThen]
  exact hK' _ _ (hK w' r1 r2)

/-- 'm[k]' at the operation -/
theorem wpList_look {P : Program} (w : World) {ops : Array Oper} {rest : List Oper} {o : Oper} {a : Act} {Q : Exit → Act → World → Prop}
    (hg : o.guard = none) (m x : Operand) (t : TypeId) (hop : o.op = Op.lookup t m x false) (k e : TypeId) (ht : P.underlying t = some (.map k e)) (hk : P.underlying k = some .string) (z : Value) (hz : (zeroValue e).run P w = .ok z w)
    (b : Nat) (l : Pairs) (hm : a.eval m = .map (some b)) (h : MapAt w b l) (key : ByteArray) (hx : a.eval x = .string key) (v : Value) (hv : (lk l key).getD z = v)
    (hK : wpList P ops Q rest (a.put o.dst v) w) : wpList P ops Q (o :: rest) a w := by
  refine wpList_plain hg fun K' hK' => ?_
  have hrun := h.look ht hk hz key false
  rw [hv] at hrun
  unfold Oper.wp
  simp [execOp, hop, hm, hx, hrun, Result.andThen]
  exact hK' _ _ hK
end Go.Proofs.YtdmggcbbfljciaaGreatDoor
