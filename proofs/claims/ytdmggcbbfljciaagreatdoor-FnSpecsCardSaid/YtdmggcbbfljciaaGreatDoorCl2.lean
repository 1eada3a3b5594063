import Derived.Test.YtdmggcbbfljciaaGreatDoorCl1
namespace Go.Proofs.YtdmggcbbfljciaaGreatDoor.CL
open Go.Lib (decDigits)

/-- growing lists and their tails from i on -/
def from_ (l : List Nat) (i : Nat) : List Nat := l.filter (fun x => decide (i ≤ x))

theorem from_all (l : List Nat) (i : Nat) (h : ∀ x ∈ l, i ≤ x) : from_ l i = l :=
  List.filter_eq_self.2 (by intro x hx; simpa using h x hx)
theorem from_none (l : List Nat) (i : Nat) (h : ∀ x ∈ l, x < i) : from_ l i = [] :=
  List.filter_eq_nil_iff.2 (by intro x hx; have := h x hx; simp; omega)
theorem from_skip (l : List Nat) (i : Nat) (h : i ∉ l) : from_ l (i + 1) = from_ l i := by
  unfold from_
  refine List.filter_congr fun x hx => ?_
  have : x ≠ i := fun e => h (e ▸ hx)
  simp; omega
theorem from_hit (l : List Nat) (hl : Gr l) (i : Nat) (h : i ∈ l) : from_ l i = i :: from_ l (i + 1) := by
  induction l with
  | nil => simp at h
  | cons a r ih =>
    have hr : Gr r := (List.pairwise_cons.1 hl).2
    have ha : ∀ x ∈ r, a < x := (List.pairwise_cons.1 hl).1
    rcases List.mem_cons.1 h with rfl | h1
    · have e1 : from_ r i = r := from_all r i (fun x hx => Nat.le_of_lt (ha x hx))
      have e2 : from_ r (i + 1) = r := from_all r (i + 1) (fun x hx => ha x hx)
      unfold from_ at *
      simp [e1, e2]
    · have h2 := ha i h1
      have := ih hr h1
      unfold from_ at *
      rw [List.filter_cons_of_neg (by simp; omega), List.filter_cons_of_neg (by simp; omega)]
      exact this

/-- no comma yet: the text with a comma where there is one already -/
def comma (s : Bs) : Bs := if s = [] then [] else s ++ [44]

/-- THE STATE OF bitsetToStr AT i: k how many of a run lie behind. -/
def BInv (l : List Nat) (i k : Nat) (s : Bs) : Prop :=
  (k = 0 ∧ ∃ p, s = tks p ∧ p ++ toksOf (from_ l i) = toksOf l) ∨
  (k ≠ 0 ∧ k ≤ i ∧ i ∈ l ∧ ∃ p, s = comma (tks p) ++ 99 :: decDigits (i - k) ∧
    p ++ (toksRun (i - k) (runEnd i (from_ l (i + 1))).1 ++ toksOf (runEnd i (from_ l (i + 1))).2) = toksOf l)

theorem BInv.start (l : List Nat) (i : Nat) (h : ∀ x ∈ l, i ≤ x) : BInv l i 0 [] :=
  Or.inl ⟨rfl, [], rfl, by rw [from_all l i h]; rfl⟩

theorem BInv.skip {l : List Nat} {i k : Nat} {s : Bs} (h : BInv l i k s) (hi : i ∉ l) : k = 0 ∧ BInv l (i + 1) k s := by
  rcases h with ⟨rfl, p, h1, h2⟩ | ⟨_, _, h1, _⟩
  · exact ⟨rfl, Or.inl ⟨rfl, p, h1, by rw [from_skip l i hi]; exact h2⟩⟩
  · exact absurd h1 hi

/-- the text behind 'if length == 0' at a bit that is set -/
def bopen (k : Nat) (s : Bs) (i : Nat) : Bs := if k = 0 then comma s ++ 99 :: decDigits i else s

theorem from_next {l : List Nat} (hl : Gr l) (i : Nat) : runEnd i (from_ l (i + 1)) = if i + 1 ∈ l then runEnd (i + 1) (from_ l (i + 2)) else (i, from_ l (i + 1)) := by
  by_cases h : i + 1 ∈ l
  · rw [if_pos h, from_hit l hl (i + 1) h]; simp [runEnd]
  · rw [if_neg h]
    cases hf : from_ l (i + 1) with
    | nil => rfl
    | cons d r =>
      have hd : d ∈ from_ l (i + 1) := by rw [hf]; simp
      have hd1 : d ∈ l := (List.mem_filter.1 hd).1
      have : d ≠ i + 1 := fun e => h (e ▸ hd1)
      simp [runEnd, this]

theorem BInv.opened {l : List Nat} {i k : Nat} {s : Bs} (hl : Gr l) (h : BInv l i k s) (hi : i ∈ l) : k ≤ i ∧ ∃ p, bopen k s i = comma (tks p) ++ 99 :: decDigits (i - k) ∧
    p ++ (toksRun (i - k) (runEnd i (from_ l (i + 1))).1 ++ toksOf (runEnd i (from_ l (i + 1))).2) = toksOf l := by
  rcases h with ⟨rfl, p, h1, h2⟩ | ⟨h0, h0', h1, p, h2, h3⟩
  · refine ⟨Nat.zero_le _, p, by simp [bopen, h1], ?_⟩
    rw [from_hit l hl i hi, toksOf] at h2
    simpa using h2
  · exact ⟨h0', p, by simp [bopen, h0, h2], h3⟩

/-- the next bit is set, too -/
theorem BInv.more {l : List Nat} {i k : Nat} {s : Bs} (hl : Gr l) (h : BInv l i k s) (hi : i ∈ l) (hn : i + 1 ∈ l) : BInv l (i + 1) (k + 1) (bopen k s i) := by
  obtain ⟨hk, p, h1, h2⟩ := h.opened hl hi
  refine Or.inr ⟨by omega, by omega, hn, p, ?_, ?_⟩
  · rw [show i + 1 - (k + 1) = i - k by omega]; exact h1
  · rw [show i + 1 - (k + 1) = i - k by omega]
    rw [from_next hl i, if_pos hn] at h2
    exact h2

/-- the text behind a run's last bit -/
def bclose (k : Nat) (s : Bs) (i : Nat) : Bs := if k = 1 then s ++ 44 :: 99 :: decDigits i else if 1 < k then s ++ 46 :: 99 :: decDigits i else s

theorem comma_tks (p q : List (Nat × Nat)) (hq : q ≠ []) : comma (tks p) ++ tks q = tks (p ++ q) := (tks_snoc p q hq).symm

/-- the next bit is not set -/
theorem BInv.last {l : List Nat} {i k : Nat} {s : Bs} (hl : Gr l) (h : BInv l i k s) (hi : i ∈ l) (hn : i + 1 ∉ l) : BInv l (i + 1) 0 (bclose k (bopen k s i) i) := by
  obtain ⟨hk, p, h1, h2⟩ := h.opened hl hi
  rw [from_next hl i, if_neg hn] at h2
  refine Or.inl ⟨rfl, p ++ toksRun (i - k) i, ?_, by simpa using h2⟩
  rw [h1, ← comma_tks p _ (toksRun_ne _ _)]
  unfold bclose
  by_cases h0 : k = 0
  · subst h0; simp [tks_run_one]
  · by_cases h3 : k = 1
    · subst h3
      have e : i = i - 1 + 1 := by omega
      have e2 := tks_run_two (i - 1)
      rw [← e] at e2
      simp [e2]
    · rw [if_neg h3, if_pos (by omega), tks_run_more (i - k) i (by omega)]
      simp

theorem BInv.done {l : List Nat} {i k : Nat} {s : Bs} (h : BInv l i k s) (hi : ∀ x ∈ l, x < i) : s = catsT l := by
  rcases h with ⟨_, p, h1, h2⟩ | ⟨_, _, h1, _⟩
  · rw [from_none l i hi] at h2
    simp [toksOf] at h2
    rw [h1, h2]; rfl
  · exact absurd (hi i h1) (by omega)

theorem comma_nil (s : Bs) (h : s = []) : comma s = [] := by simp [comma, h]
theorem comma_cons (s : Bs) (h : s ≠ []) : comma s = s ++ [44] := by simp [comma, h]

/-- THE STATE OF spec.Cats AT i: what is written, and what is left. -/
def CInv (l : List Nat) (i : Nat) (s : Bs) : Prop := ∃ p, s = tks p ∧ p ++ toksOf (l.drop i) = toksOf l

theorem CInv.start (l : List Nat) : CInv l 0 [] := ⟨[], rfl, rfl⟩

/-- j lies in the run that begins at i -/
def InRun (l : List Nat) (i j : Nat) : Prop := i ≤ j ∧ j < l.length ∧ l.getD j 0 = l.getD i 0 + (j - i) ∧ runEnd (l.getD i 0) (l.drop (i + 1)) = runEnd (l.getD j 0) (l.drop (j + 1))

theorem InRun.start (l : List Nat) (i : Nat) (h : i < l.length) : InRun l i i := ⟨Nat.le_refl _, h, by omega, rfl⟩

theorem InRun.step {l : List Nat} {i j : Nat} (h : InRun l i j) (hj : j + 1 < l.length) (he : l.getD (j + 1) 0 = l.getD j 0 + 1) : InRun l i (j + 1) := by
  obtain ⟨h1, h2, h3, h4⟩ := h
  refine ⟨by omega, hj, by omega, ?_⟩
  rw [h4, List.drop_eq_getElem_cons hj]
  have e : l[j + 1] = l.getD (j + 1) 0 := by simp [List.getD, List.getElem?_eq_getElem hj]
  rw [e, runEnd, if_pos he]

theorem InRun.stop {l : List Nat} {i j : Nat} (h : InRun l i j) (he : ¬ (j + 1 < l.length ∧ l.getD (j + 1) 0 = l.getD j 0 + 1)) : runEnd (l.getD i 0) (l.drop (i + 1)) = (l.getD j 0, l.drop (j + 1)) := by
  obtain ⟨h1, h2, h3, h4⟩ := h
  rw [h4]
  by_cases hj : j + 1 < l.length
  · rw [List.drop_eq_getElem_cons hj]
    have e : l[j + 1] = l.getD (j + 1) 0 := by simp [List.getD, List.getElem?_eq_getElem hj]
    have : ¬ l.getD (j + 1) 0 = l.getD j 0 + 1 := fun h => he ⟨hj, h⟩
    rw [e, runEnd, if_neg this]
  · rw [List.drop_eq_nil_of_le (by omega)]; rfl

/-- what one round of spec.Cats writes -/
def cround (s : Bs) (a b : Nat) : Bs := comma s ++ 99 :: decDigits a ++ (if b = a then [] else if b = a + 1 then 44 :: 99 :: decDigits b else 46 :: 99 :: decDigits b)

theorem CInv.step {l : List Nat} {i j : Nat} {s : Bs} (h : CInv l i s) (hr : InRun l i j) (he : ¬ (j + 1 < l.length ∧ l.getD (j + 1) 0 = l.getD j 0 + 1)) :
    CInv l (j + 1) (cround s (l.getD i 0) (l.getD j 0)) := by
  obtain ⟨p, h1, h2⟩ := h
  have hi : i < l.length := by have := hr.1; have := hr.2.1; omega
  have hs := hr.stop he
  rw [List.drop_eq_getElem_cons hi, toksOf] at h2
  have e : l[i] = l.getD i 0 := by simp [List.getD, List.getElem?_eq_getElem hi]
  rw [e, hs] at h2
  refine ⟨p ++ toksRun (l.getD i 0) (l.getD j 0), ?_, by simpa using h2⟩
  rw [h1, ← comma_tks p _ (toksRun_ne _ _)]
  have h3 := hr.2.2.1
  have h4 := hr.1
  generalize l.getD i 0 = a at *
  generalize l.getD j 0 = b at *
  unfold cround
  by_cases h5 : b = a
  · subst h5; simp [tks_run_one]
  · rw [if_neg h5]
    by_cases h6 : b = a + 1
    · subst h6; rw [if_pos rfl, tks_run_two]; simp
    · rw [if_neg h6, tks_run_more a b (by omega)]; simp

theorem CInv.done {l : List Nat} {i : Nat} {s : Bs} (h : CInv l i s) (hi : l.length ≤ i) : s = catsT l := by
  obtain ⟨p, h1, h2⟩ := h
  rw [List.drop_eq_nil_of_le hi] at h2
  simp [toksOf] at h2
  rw [h1, h2]; rfl

end Go.Proofs.YtdmggcbbfljciaaGreatDoor.CL
