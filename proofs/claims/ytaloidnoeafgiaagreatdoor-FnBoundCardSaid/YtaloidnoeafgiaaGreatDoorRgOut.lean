/- how long levels' texts are; a range's text is the range's. -/
import Derived.Test.YtaloidnoeafgiaaGreatDoorSpec6
namespace Go.Proofs.YtaloidnoeafgiaaGreatDoor
open Go.RowKit Go.Lib

namespace CL
theorem runEnd_len (r : List Nat) : ∀ c, (runEnd c r).1 + (runEnd c r).2.length = r.length + c := by
  induction r with
  | nil => intro c; simp [runEnd]
  | cons d r ih =>
    intro c
    simp only [runEnd]
    split
    · rename_i h
      have := ih d
      simp only [List.length_cons]; omega
    · simp only [List.length_cons]; omega

theorem toksRun_len (a b : Nat) (h : a ≤ b) : (toksRun a b).length ≤ b - a + 1 := by
  unfold toksRun
  split
  · simp
  · split
    · simp; omega
    · simp

theorem toksOf_len : ∀ (n : Nat) (l : List Nat), l.length ≤ n → (toksOf l).length ≤ l.length := by
  intro n
  induction n with
  | zero => intro l hl; cases l with
    | nil => simp [toksOf]
    | cons a r => simp at hl
  | succ n ih =>
    intro l hl
    cases l with
    | nil => simp [toksOf]
    | cons a r =>
      have h1 := runEnd_len r a
      have h2 := runEnd_ge r a
      have h3 := toksRun_len a _ h2
      have h4 := ih (runEnd a r).2 (by simp at hl; omega)
      rw [toksOf, List.length_append, List.length_cons]
      omega

theorem dec_short (n : Nat) (h : n ≤ 9999) : (decDigits n).length ≤ 4 := by
  rw [decDigits]
  split
  · simp
  · rw [decDigits]
    split
    · simp
    · rw [decDigits]
      split
      · simp
      · rw [decDigits, dif_pos (by omega)]
        simp

theorem tokT_len (t : Nat × Nat) (h : tokOk t) : (tokT t).length ≤ 11 := by
  obtain ⟨h1, h2⟩ := h
  have h3 := dec_short t.1 (by omega)
  have h4 := dec_short t.2 h2
  unfold tokT
  split
  · simp; omega
  · simp; omega

theorem joinC_le (p : List Bs) (h : ∀ x ∈ p, x.length ≤ 11) : (joinC 44 p).length ≤ 12 * p.length := by
  induction p with
  | nil => simp [joinC]
  | cons x r ih =>
    have h1 := h x (by simp)
    have h2 := ih (fun y hy => h y (by simp [hy]))
    by_cases hr : r = []
    · subst hr; simp [joinC]; omega
    · rw [joinC_cons _ _ _ hr]; simp; omega

theorem tks_len (p : List (Nat × Nat)) (h : ∀ t ∈ p, tokOk t) : (tks p).length ≤ 12 * p.length := by
  have := joinC_le (p.map tokT) (by intro x hx; obtain ⟨t, ht, rfl⟩ := List.mem_map.1 hx; exact tokT_len t (h t ht))
  simpa [tks] using this

theorem lvT_len (s : Nat) (hs : s ≤ 9999) (p : List (Nat × Nat)) (h : ∀ t ∈ p, tokOk t) : (lvT s p).length ≤ 6 + 12 * p.length := by
  have h1 := dec_short s hs
  have h2 := tks_len p h
  unfold lvT
  split
  · simp; omega
  · simp; omega

theorem gr_ext : ∀ (l k : List Nat), Gr l → Gr k → (∀ x, x ∈ l ↔ x ∈ k) → l = k
  | [], [], _, _, _ => rfl
  | [], b :: k, _, _, h => by have := (h b).2 (by simp); cases this
  | a :: l, [], _, _, h => by have := (h a).1 (by simp); cases this
  | a :: l, b :: k, hl, hk, h => by
    unfold Gr at hl hk
    rw [List.pairwise_cons] at hl hk
    have hab : a = b := by
      have h1 := (h a).1 (by simp)
      have h2 := (h b).2 (by simp)
      rcases List.mem_cons.1 h1 with e | e
      · exact e
      · rcases List.mem_cons.1 h2 with e' | e'
        · exact e'.symm
        · have := hl.1 b e'; have := hk.1 a e; omega
    subst hab
    rw [gr_ext l k hl.2 hk.2 fun x => ?_]
    have hx := h x
    rw [List.mem_cons, List.mem_cons] at hx
    constructor
    · intro hm
      rcases hx.1 (Or.inr hm) with e | e
      · have := hl.1 x hm; omega
      · exact e
    · intro hm
      rcases hx.2 (Or.inr hm) with e | e
      · have := hk.1 x hm; omega
      · exact e
end CL

theorem mem_toks (s : Nat) (ns : List Nat) (hg : CL.Gr ns) : Mem (lvd s (CL.toksOf ns)) ns := ⟨hg, fun x => CL.toksOf_mem ns.length ns (Nat.le_refl _) x⟩
theorem mem_loose (s : Nat) (ns : List Nat) (hg : CL.Gr ns) : Mem (lvd s (CL.looseP ns)) ns := ⟨hg, fun x => CL.looseP_mem ns x⟩

/-- a level that was read has the sensitivity and the categories that were written -/
structure Lv (a : Lvd) (s : Nat) (ns : List Nat) : Prop where
  sens : a.sens = s
  has : a.has = !ns.isEmpty
  mem : Mem a ns

theorem lv_toks (s : Nat) (ns : List Nat) (hg : CL.Gr ns) : Lv (lvd s (CL.toksOf ns)) s ns := ⟨rfl, by
  cases ns with
  | nil => simp [lvd, CL.toksOf]
  | cons a l =>
    have := CL.toksOf_ne (a :: l) (by simp)
    cases h : CL.toksOf (a :: l) with
    | nil => exact absurd h this
    | cons t p => simp [lvd, h], mem_toks s ns hg⟩
theorem lv_loose (s : Nat) (ns : List Nat) (hg : CL.Gr ns) : Lv (lvd s (CL.looseP ns)) s ns := ⟨rfl, by
  cases ns with
  | nil => simp [lvd, CL.looseP]
  | cons a l =>
    have := CL.looseP_ne (a :: l) (by simp)
    cases h : CL.looseP (a :: l) with
    | nil => exact absurd h this
    | cons t p => simp [lvd, h], mem_loose s ns hg⟩

theorem range_out {a c : Lvd} {s s' : Nat} {ns ns' : List Nat} {r : ByteArray} (ha : Lv a s ns) (hc : Lv c s' ns') (h : RgOut r a c ns ns') : r.data.toList = spanT s ns s' ns' := by
  obtain ⟨q, hq, hr⟩ := h
  rw [hr, rgT, spanT, ha.sens, hc.sens]
  have key : q = true ↔ s = s' ∧ ns = ns' := by
    unfold EqIs LvSame at hq
    rw [hq]
    constructor
    · rintro ⟨h1, _, h3⟩
      refine ⟨by rw [← ha.sens, ← hc.sens]; exact h1, CL.gr_ext _ _ ha.mem.1 hc.mem.1 fun x => ?_⟩
      rw [← ha.mem.2 x, ← hc.mem.2 x]; exact h3 x
    · rintro ⟨h1, h2⟩
      refine ⟨by rw [ha.sens, hc.sens]; exact h1, by rw [ha.has, hc.has, h2], fun x => ?_⟩
      rw [ha.mem.2 x, hc.mem.2 x, h2]
  by_cases h : s = s' ∧ ns = ns'
  · rw [if_pos h, key.2 h]; simp
  · rw [if_neg h]
    cases q with
    | false => simp
    | true => exact absurd (key.1 rfl) h

/-- the text of a range is read as its levels -/
theorem span_reads (t : ByteArray) (s s' : Nat) (hs : s ≤ 9999) (hs' : s' ≤ 9999) (ns ns' : List Nat) (hg : CL.Gr ns) (hg' : CL.Gr ns') (h9 : ∀ x ∈ ns, x ≤ 9999) (h9' : ∀ x ∈ ns', x ≤ 9999) (hl : ns.length ≤ 500) (hl' : ns'.length ≤ 500) (ht : t.data.toList = spanT s ns s' ns') :
    ∃ a c, ReadsAs t a c ∧ Lv a s ns ∧ Lv c s' ns' := by
  have hok := CL.toksOf_ok ns.length ns (Nat.le_refl _) h9
  have hok' := CL.toksOf_ok ns'.length ns' (Nat.le_refl _) h9'
  have n1 := CL.lvT_len s hs _ hok
  have n2 := CL.lvT_len s' hs' _ hok'
  have m1 := CL.toksOf_len ns.length ns (Nat.le_refl _)
  have m2 := CL.toksOf_len ns'.length ns' (Nat.le_refl _)
  by_cases h : s = s' ∧ ns = ns'
  · obtain ⟨rfl, rfl⟩ := h
    rw [spanT, if_pos ⟨rfl, rfl⟩] at ht
    exact ⟨_, _, fun w => range_one t s _ hok ht hs (by rw [Lib.size_eq, ht]; omega) w, lv_toks s ns hg, lv_toks s ns hg⟩
  · rw [spanT, if_neg h] at ht
    exact ⟨_, _, fun w => range_two t s _ s' _ hok hok' ht hs hs' (by rw [Lib.size_eq, ht]; simp; omega) w, lv_toks s ns hg, lv_toks s' ns' hg'⟩

theorem loose_reads (t : ByteArray) (s s' : Nat) (hs : s ≤ 9999) (hs' : s' ≤ 9999) (ns ns' : List Nat) (hg : CL.Gr ns) (hg' : CL.Gr ns') (h9 : ∀ x ∈ ns, x ≤ 9999) (h9' : ∀ x ∈ ns', x ≤ 9999) (hl : ns.length ≤ 500) (hl' : ns'.length ≤ 500) (ht : t.data.toList = CL.lvT s (CL.looseP ns) ++ 45 :: CL.lvT s' (CL.looseP ns')) :
    ∃ a c, ReadsAs t a c ∧ Lv a s ns ∧ Lv c s' ns' := by
  have hok := CL.looseP_ok ns h9
  have hok' := CL.looseP_ok ns' h9'
  have n1 := CL.lvT_len s hs _ hok
  have n2 := CL.lvT_len s' hs' _ hok'
  have m1 : (CL.looseP ns).length = ns.length := by simp [CL.looseP]
  have m2 : (CL.looseP ns').length = ns'.length := by simp [CL.looseP]
  exact ⟨_, _, fun w => range_two t s _ s' _ hok hok' ht hs hs' (by rw [Lib.size_eq, ht]; simp; omega) w, lv_loose s ns hg, lv_loose s' ns' hg'⟩
end Go.Proofs.YtaloidnoeafgiaaGreatDoor
