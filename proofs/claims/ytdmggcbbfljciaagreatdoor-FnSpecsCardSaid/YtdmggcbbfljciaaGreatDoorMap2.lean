/- a range over a map keyed by strings: each key comes out once, in whatever order. -/
import Derived.Test.YtdmggcbbfljciaaGreatDoorMap1
namespace Go.Proofs.YtdmggcbbfljciaaGreatDoor
open Go.RowKit Go.Lib Go.MapKept
open Go.ChangeMaps (setBlock)

theorem nodup_len {α : Type} [DecidableEq α] : ∀ (a b : List α), a.Nodup → (∀ x ∈ a, x ∈ b) → a.length ≤ b.length
  | [], _, _, _ => Nat.zero_le _
  | x :: a, b, h, hs => by
    rw [List.nodup_cons] at h
    have hx := hs x List.mem_cons_self
    have h1 := nodup_len a (b.erase x) h.2 fun y hy => (List.mem_erase_of_ne (fun e => h.1 (by rw [← e]; exact hy))).2 (hs y (List.mem_cons_of_mem _ hy))
    have h2 := List.length_erase_of_mem hx
    have h3 := List.length_pos_of_mem hx
    simp only [List.length_cons]; omega

/-- block r ranges over block b, a map that holds the pairs l; the keys in done have come out -/
def RangeAt (w : World) (b r : Nat) (l : Pairs) (done : List ByteArray) : Prop :=
  ∃ es clock since seen c0, w.heap[b]? = some (.map es clock) ∧ Stamped es clock ∧ es.toList.map (fun e => (e.key, e.val)) = l.map (fun p => (Value.string p.1, p.2)) ∧
    w.heap[r]? = some (.mapIter (some b) since seen c0) ∧ (∀ x ∈ es.toList, x.born < since) ∧ since ≤ c0 ∧ since ≤ clock ∧ done.Nodup ∧ (∀ k ∈ done, k ∈ l.map (·.1)) ∧
    ∀ x ∈ es.toList, seen.contains x.born = true ↔ ∃ k ∈ done, x.key = .string k

theorem RangeAt.map {w : World} {b r : Nat} {l : Pairs} {done : List ByteArray} (h : RangeAt w b r l done) : MapAt w b l := by
  obtain ⟨es, clock, since, seen, c0, h1, h2, h3, _⟩ := h
  exact ⟨es, clock, h1, h2, h3⟩

theorem RangeAt.lt {w : World} {b r : Nat} {l : Pairs} {done : List ByteArray} (h : RangeAt w b r l done) : r < w.heap.size := by
  obtain ⟨es, clock, since, seen, c0, h1, h2, h3, h4, _⟩ := h
  exact (Array.getElem?_eq_some_iff.1 h4).1

theorem RangeAt.kept {w w' : World} {b r : Nat} {l : Pairs} {done : List ByteArray} (h : RangeAt w b r l done) (hb : w'.heap[b]? = w.heap[b]?) (hr : w'.heap[r]? = w.heap[r]?) : RangeAt w' b r l done := by
  obtain ⟨es, clock, since, seen, c0, h1, h2, h3, h4, h5⟩ := h
  exact ⟨es, clock, since, seen, c0, hb.trans h1, h2, h3, hr.trans h4, h5⟩

theorem RangeAt.alloc {w : World} {b r : Nat} {l : Pairs} {done : List ByteArray} (h : RangeAt w b r l done) (o : Obj) : RangeAt (w.alloc o) b r l done := h.kept (Below.heap_alloc _ _ _ h.map.lt) (Below.heap_alloc _ _ _ h.lt)

theorem RangeAt.grown {w w' : World} {b r : Nat} {l : Pairs} {done : List ByteArray} {row : Option Nat} (h : RangeAt w b r l done) (hg : w.grownBy w' row) (hb : some b ≠ row) (hr : some r ≠ row) : RangeAt w' b r l done :=
  h.kept (hg.block b h.map.lt hb) (hg.block r h.lt hr)

theorem RangeAt.nodup {w : World} {b r : Nat} {l : Pairs} {done : List ByteArray} (h : RangeAt w b r l done) : done.Nodup := by
  obtain ⟨es, clock, since, seen, c0, h1, h2, h3, h4, h5, h6, h7, h8, h9⟩ := h
  exact h8

theorem RangeAt.sub {w : World} {b r : Nat} {l : Pairs} {done : List ByteArray} (h : RangeAt w b r l done) : ∀ k ∈ done, k ∈ l.map (·.1) := by
  obtain ⟨es, clock, since, seen, c0, h1, h2, h3, h4, h5, h6, h7, h8, h9, _⟩ := h
  exact h9

theorem RangeAt.len {w : World} {b r : Nat} {l : Pairs} {done : List ByteArray} (h : RangeAt w b r l done) : done.length ≤ l.length := by
  have := nodup_len _ _ h.nodup h.sub
  simpa using this

theorem perm_of_len {α : Type} [DecidableEq α] {a b : List α} (ha : a.Nodup) (hs : ∀ x ∈ a, x ∈ b) (hb : ∀ x ∈ b, x ∈ a) (hn : b.Nodup) : a.Perm b :=
  (List.perm_ext_iff_of_nodup ha hn).2 fun x => ⟨hs x, hb x⟩

theorem MapAt.range {P : Program} {w : World} {b : Nat} {l : Pairs} (h : MapAt w b l) {t k e : TypeId} (ht : P.underlying t = some (.map k e)) :
    ∃ w', (Instr.range t (.map (some b))).run P w = .ok (.pointer (some ⟨w.heap.size, 0, none⟩)) w' ∧ RangeAt w' b w.heap.size l [] ∧ w.grownBy w' none ∧ w'.heap.size = w.heap.size + 1 := by
  have hlt := h.lt
  obtain ⟨es, clock, hb, hs, he⟩ := h
  refine ⟨_, run_range_map w t k e b es clock ht hb, ⟨es, clock, clock, #[], clock, (Below.heap_alloc _ _ _ hlt).trans hb, hs, he, heap_alloc_new _ _, hs.1, Nat.le_refl _, Nat.le_refl _, List.nodup_nil, by simp, fun x _ => by simp⟩, World.grownBy_alloc w _ none, by simp⟩

/-- the step -/
theorem RangeAt.next {P : Program} {w : World} {b r : Nat} {l : Pairs} {done : List ByteArray} (h : RangeAt w b r l done) (ty : TypeId) :
    (done.Perm (l.map (·.1)) ∧ (Instr.next (.pointer (some ⟨r, 0, none⟩)) false ty).run P w = .ok (.tuple #[.bool false]) w) ∨
    ∃ k v w', k ∉ done ∧ (k, v) ∈ l ∧ done.length < l.length ∧ (Instr.next (.pointer (some ⟨r, 0, none⟩)) false ty).run P w = .ok (.tuple #[.bool true, .string k, v]) w' ∧ RangeAt w' b r l (done ++ [k]) ∧ w.grownBy w' (some r) ∧ w'.heap.size = w.heap.size ∧
      (Instr.entry (.pointer (some ⟨r, 0, none⟩))).run P w' = .ok (.tuple #[.string k, v]) w' := by
  have hn := h.map.nodup
  obtain ⟨es, clock, since, seen, c0, hb, hs, he, hr, hold, hsc, hsk, hd, hdl, hseen⟩ := h
  have hne : r ≠ b := by intro e; rw [e, hb] at hr; cases hr
  have key : ∀ x ∈ es.toList, ∃ k v, x.key = .string k ∧ x.val = v ∧ (k, v) ∈ l := by
    intro x hx
    have : (x.key, x.val) ∈ l.map (fun p => (Value.string p.1, p.2)) := he ▸ List.mem_map.2 ⟨x, hx, rfl⟩
    obtain ⟨p, hp, e⟩ := List.mem_map.1 this
    exact ⟨p.1, p.2, (Prod.mk.inj e).1.symm, (Prod.mk.inj e).2.symm, hp⟩
  rcases run_next_at (P := P) w ty r b since c0 seen es clock hr hb hold hsc with ⟨h0, hrun⟩ | ⟨e, hel, w1, hal, hrun⟩
  · refine Or.inl ⟨perm_of_len hd hdl ?_ hn, hrun⟩
    intro k hk
    obtain ⟨p, hp, rfl⟩ := List.mem_map.1 hk
    have : (Value.string p.1, p.2) ∈ es.toList.map (fun e => (e.key, e.val)) := he ▸ List.mem_map.2 ⟨p, hp, rfl⟩
    obtain ⟨x, hx, ex⟩ := List.mem_map.1 this
    obtain ⟨k', hk', e'⟩ := (hseen x hx).1 (all_seen es seen h0 x hx)
    rw [(Prod.mk.inj ex).1] at e'
    simp only [Value.string.injEq] at e'
    rw [e']; exact hk'
  · obtain ⟨hem, hes⟩ := mem_left hel
    obtain ⟨k, v, hk, hv, hkl⟩ := key e hem
    have hr1 : w1.heap[r]? = some (.mapIter (some b) since seen c0) := by rcases hal with rfl | rfl <;> exact hr
    have hb1 : w1.heap[b]? = some (.map es clock) := by rcases hal with rfl | rfl <;> exact hb
    have hset := heap_set (o' := .mapIter (some b) since (seen.push e.born) clock) hr1
    have hb' : (setBlock w1 r (.mapIter (some b) since (seen.push e.born) clock)).heap[b]? = some (.map es clock) := (hset.2 b (fun e1 => hne e1.symm)).trans hb1
    have hst := (stamped_iff es clock).1 hs
    have hnk : k ∉ done := by
      intro hin
      have := (hseen e hem).2 ⟨k, hin, hk⟩
      rw [hes] at this; cases this
    have hnd : (done ++ [k]).Nodup := by
      rw [List.nodup_append]
      refine ⟨hd, by simp, ?_⟩
      intro a ha c hc
      simp at hc; subst hc
      intro e1; subst e1; exact hnk ha
    have hsub : ∀ x ∈ done ++ [k], x ∈ l.map (·.1) := by
      intro x hx
      rcases List.mem_append.1 hx with hx | hx
      · exact hdl x hx
      · simp at hx; subst hx
        exact List.mem_map.2 ⟨_, hkl, rfl⟩
    have hlen : done.length < l.length := by
      have := nodup_len _ _ hnd hsub
      simp at this; omega
    refine Or.inr ⟨k, v, _, hnk, hkl, hlen, by rw [← hk, ← hv]; exact hrun, ⟨es, clock, since, seen.push e.born, clock, hb', hs, he, hset.1, hold, hsk, hsk, hnd, hsub, ?_⟩, ?_, ?_, by rw [← hk, ← hv]; exact run_entry_at _ r b since seen es clock e hset.1 hb' hem hst.2.1⟩
    · intro x hx
      rw [contains_push, Bool.or_eq_true, beq_iff_eq]
      constructor
      · rintro (h1 | h1)
        · obtain ⟨k', hk', e'⟩ := (hseen x hx).1 h1
          exact ⟨k', List.mem_append_left _ hk', e'⟩
        · obtain rfl := born_inj hst.2.1 hx hem h1
          exact ⟨k, by simp, hk⟩
      · rintro ⟨k', hk', e'⟩
        rcases List.mem_append.1 hk' with hk' | hk'
        · exact Or.inl ((hseen x hx).2 ⟨k', hk', e'⟩)
        · simp at hk'; subst hk'
          refine Or.inr (congrArg MapEntry.born (entry_eq_of_key hst.2.2 hx hem (by rw [e', hk])))
    · rcases hal with rfl | rfl <;> exact ⟨rfl, rfl, rfl, by simp [setBlock], fun i _ hi => hset.2 i (fun e1 => hi (by rw [e1]))⟩
    · rcases hal with rfl | rfl <;> simp [setBlock]

section
variable {P : Program} (w : World) {ops : Array Oper} {rest : List Oper} {o : Oper} {a : Act} {Q : Exit → Act → World → Prop}

/-- 'range m' at the operation -/
theorem wpList_rangeAt (hg : o.guard = none) (m : Operand) (t : TypeId) (hop : o.op = Op.range t m) (k e : TypeId) (ht : P.underlying t = some (.map k e)) (b : Nat) (l : Pairs)
    (hm : a.eval m = .map (some b)) (h : MapAt w b l)
    (hK : ∀ w', RangeAt w' b w.heap.size l [] → w.grownBy w' none → w'.heap.size = w.heap.size + 1 → wpList P ops Q rest (a.put o.dst (.pointer (some ⟨w.heap.size, 0, none⟩))) w') :
    wpList P ops Q (o :: rest) a w := by
  refine wpList_plain hg fun K' hK' => ?_
  obtain ⟨w', hrun, r1, r2, r3⟩ := h.range ht
  unfold Oper.wp
  simp [execOp, hop, hm, hrun, Result.andThen]
  exact hK' _ _ (hK w' r1 r2 r3)

/-- the step at the operation -/
theorem wpList_nextAt (hg : o.guard = none) (it : Operand) (hop : o.op = Op.next it false) (b r : Nat) (l : Pairs) (done : List ByteArray)
    (hit : a.eval it = .pointer (some ⟨r, 0, none⟩)) (h : RangeAt w b r l done)
    (hDone : done.Perm (l.map (·.1)) → wpList P ops Q rest (a.put o.dst (.tuple #[.bool false])) w)
    (hMore : ∀ (x : ByteArray) (v : Value) (w' : World), x ∉ done → (x, v) ∈ l → done.length < l.length → RangeAt w' b r l (done ++ [x]) → w.grownBy w' (some r) → w'.heap.size = w.heap.size →
      (Instr.entry (.pointer (some ⟨r, 0, none⟩))).run P w' = .ok (.tuple #[.string x, v]) w' → wpList P ops Q rest (a.put o.dst (.tuple #[.bool true, .string x, v])) w') :
    wpList P ops Q (o :: rest) a w := by
  refine wpList_plain hg fun K' hK' => ?_
  unfold Oper.wp
  rcases h.next (P := P) o.type with ⟨h0, hrun⟩ | ⟨x, v, w', h1, h2, h3, hrun, h4, h5, h6, h7⟩
  · simp [execOp, hop, hit, hrun, Result.andThen]
    exact hK' _ _ (hDone h0)
  · simp [execOp, hop, hit, hrun, Result.andThen]
    exact hK' _ _ (hMore x v w' h1 h2 h3 h4 h5 h6 h7)
end
end Go.Proofs.YtdmggcbbfljciaaGreatDoor
