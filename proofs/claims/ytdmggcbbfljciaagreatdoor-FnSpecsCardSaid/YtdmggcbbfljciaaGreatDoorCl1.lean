import Derived.Lib.ItoaNum
namespace Go.Proofs.YtdmggcbbfljciaaGreatDoor.CL
abbrev Bs := List UInt8
open Go.Lib (decDigits)

def joinC (c : UInt8) : List Bs → Bs
  | [] => []
  | [x] => x
  | x :: y :: r => x ++ c :: joinC c (y :: r)

theorem joinC_cons (c : UInt8) (x : Bs) (r : List Bs) (h : r ≠ []) : joinC c (x :: r) = x ++ c :: joinC c r := by
  cases r with
  | nil => exact absurd rfl h
  | cons y r => rfl

theorem joinC_append (c : UInt8) (p q : List Bs) (hp : p ≠ []) (hq : q ≠ []) : joinC c (p ++ q) = joinC c p ++ c :: joinC c q := by
  induction p with
  | nil => exact absurd rfl hp
  | cons x r ih =>
    cases r with
    | nil => simp only [List.cons_append, List.nil_append]; rw [joinC_cons c x q hq]; rfl
    | cons y r =>
      rw [List.cons_append, joinC_cons c x (y :: r ++ q) (by simp), ih (by simp), joinC_cons c x (y :: r) (by simp)]
      simp

theorem joinC_ne_nil (c : UInt8) (p : List Bs) (h : ∀ x ∈ p, x ≠ []) (hp : p ≠ []) : joinC c p ≠ [] := by
  cases p with
  | nil => exact absurd rfl hp
  | cons x r =>
    cases r with
    | nil => exact h x (by simp)
    | cons y r => simp [joinC]

/-- A token of categories. -/
def tokT (t : Nat × Nat) : Bs := if t.2 = t.1 then 99 :: decDigits t.1 else 99 :: decDigits t.1 ++ 46 :: 99 :: decDigits t.2

theorem tokT_ne (t : Nat × Nat) : tokT t ≠ [] := by unfold tokT; split <;> simp

def runEnd (c : Nat) : List Nat → Nat × List Nat
  | [] => (c, [])
  | d :: r => if d = c + 1 then runEnd d r else (c, d :: r)

theorem runEnd_length (r : List Nat) : ∀ c, (runEnd c r).2.length ≤ r.length := by
  induction r with
  | nil => intro c; simp [runEnd]
  | cons d r ih => intro c; simp only [runEnd]; split
                   · have := ih d; simp; omega
                   · simp

def toksRun (a b : Nat) : List (Nat × Nat) := if b = a then [(a, a)] else if b = a + 1 then [(a, a), (b, b)] else [(a, b)]

def toksOf : List Nat → List (Nat × Nat)
  | [] => []
  | a :: r => toksRun a (runEnd a r).1 ++ toksOf (runEnd a r).2
termination_by l => l.length
decreasing_by have := runEnd_length r a; simp; omega

def tks (p : List (Nat × Nat)) : Bs := joinC 44 (p.map tokT)
def catsT (l : List Nat) : Bs := tks (toksOf l)

theorem tks_nil : tks [] = [] := rfl
theorem tks_ne (p : List (Nat × Nat)) (h : p ≠ []) : tks p ≠ [] :=
  joinC_ne_nil _ _ (by intro x hx; obtain ⟨t, _, rfl⟩ := List.mem_map.1 hx; exact tokT_ne t) (by simpa using h)
theorem tks_append (p q : List (Nat × Nat)) (hp : p ≠ []) (hq : q ≠ []) : tks (p ++ q) = tks p ++ 44 :: tks q := by
  unfold tks; rw [List.map_append]; exact joinC_append _ _ _ (by simpa using hp) (by simpa using hq)
theorem tks_one (a : Nat) : tks [(a, a)] = 99 :: decDigits a := by simp [tks, joinC, tokT]

/-- what a list of tokens and one more text is: with a comma where there is one already. -/
theorem tks_snoc (p q : List (Nat × Nat)) (hq : q ≠ []) : tks (p ++ q) = (if tks p = [] then [] else tks p ++ [44]) ++ tks q := by
  by_cases h : p = []
  · subst h; simp [tks_nil]
  · rw [tks_append p q h hq, if_neg (tks_ne p h)]; simp

/-- the text at the begin of a run. -/
theorem tks_run_one (a : Nat) : tks (toksRun a a) = 99 :: decDigits a := by simp [toksRun, tks_one]
theorem tks_run_two (a : Nat) : tks (toksRun a (a + 1)) = 99 :: decDigits a ++ 44 :: 99 :: decDigits (a + 1) := by
  simp [toksRun, tks, joinC, tokT]
theorem tks_run_more (a b : Nat) (h : a + 1 < b) : tks (toksRun a b) = 99 :: decDigits a ++ 46 :: 99 :: decDigits b := by
  have h1 : b ≠ a := by omega
  have h2 : b ≠ a + 1 := by omega
  simp [toksRun, h1, h2, tks, joinC, tokT]
theorem toksRun_ne (a b : Nat) : toksRun a b ≠ [] := by unfold toksRun; split <;> (try split) <;> simp

/-- growing -/
def Gr (l : List Nat) : Prop := l.Pairwise (· < ·)

theorem runEnd_ge (r : List Nat) : ∀ c, c ≤ (runEnd c r).1 := by
  induction r with
  | nil => intro c; exact Nat.le_refl _
  | cons d r ih => intro c; simp only [runEnd]; split
                   · rename_i h; have := ih d; omega
                   · exact Nat.le_refl _

/-- what a run and what is left hold -/
theorem runEnd_mem (r : List Nat) : ∀ c k, (k = c ∨ k ∈ r) ↔ ((c ≤ k ∧ k ≤ (runEnd c r).1) ∨ k ∈ (runEnd c r).2) := by
  induction r with
  | nil => intro c k; simp [runEnd]; omega
  | cons d r ih =>
    intro c k
    simp only [runEnd]
    split
    · rename_i h
      have h1 := ih d k
      have h2 := runEnd_ge r d
      rw [List.mem_cons]
      constructor
      · rintro (rfl | h3)
        · left; omega
        · rcases h1.1 h3 with h4 | h4
          · left; omega
          · right; exact h4
      · rintro (h3 | h3)
        · by_cases h5 : k = c
          · left; exact h5
          · right; exact h1.2 (Or.inl (by omega))
        · right; exact h1.2 (Or.inr h3)
    · simp only [List.mem_cons]
      constructor
      · rintro (rfl | h3)
        · left; omega
        · right; exact h3
      · rintro (h3 | h3)
        · left; omega
        · right; exact h3

def inTok (k : Nat) (t : Nat × Nat) : Prop := t.1 ≤ k ∧ k ≤ t.2

theorem toksRun_mem (a b k : Nat) (_h : a ≤ b) : (∃ t ∈ toksRun a b, inTok k t) ↔ (a ≤ k ∧ k ≤ b) := by
  unfold toksRun inTok
  split
  · simp; omega
  · split
    · simp; omega
    · simp

theorem toksOf_mem : ∀ (n : Nat) (l : List Nat), l.length ≤ n → ∀ k, (∃ t ∈ toksOf l, inTok k t) ↔ k ∈ l := by
  intro n
  induction n with
  | zero => intro l hl k; cases l with
    | nil => simp [toksOf]
    | cons a r => simp at hl
  | succ n ih =>
    intro l hl k
    cases l with
    | nil => simp [toksOf]
    | cons a r =>
      rw [toksOf, List.mem_cons, runEnd_mem r a k, ← ih (runEnd a r).2 (by have := runEnd_length r a; simp at hl; omega) k, ← toksRun_mem a _ k (runEnd_ge r a)]
      constructor
      · rintro ⟨t, ht, hk⟩
        rcases List.mem_append.1 ht with h | h
        · exact Or.inl ⟨t, h, hk⟩
        · exact Or.inr ⟨t, h, hk⟩
      · rintro (⟨t, ht, hk⟩ | ⟨t, ht, hk⟩)
        · exact ⟨t, List.mem_append.2 (Or.inl ht), hk⟩
        · exact ⟨t, List.mem_append.2 (Or.inr ht), hk⟩

def tokOk (t : Nat × Nat) : Prop := t.1 ≤ t.2 ∧ t.2 ≤ 9999

theorem toksRun_ok (a b : Nat) (h : a ≤ b) (hb : b ≤ 9999) : ∀ t ∈ toksRun a b, tokOk t := by
  unfold toksRun tokOk
  intro t ht
  split at ht
  · simp at ht; subst ht; simp; omega
  · split at ht
    · simp at ht; rcases ht with rfl | rfl <;> simp <;> omega
    · simp at ht; subst ht; simp; omega

theorem runEnd_le (r : List Nat) (m : Nat) : ∀ c, c ≤ m → (∀ x ∈ r, x ≤ m) → (runEnd c r).1 ≤ m ∧ ∀ x ∈ (runEnd c r).2, x ≤ m := by
  induction r with
  | nil => intro c h _; exact ⟨h, by simp [runEnd]⟩
  | cons d r ih =>
    intro c h hr
    simp only [runEnd]
    split
    · exact ih d (hr d (by simp)) (fun x hx => hr x (by simp [hx]))
    · exact ⟨h, hr⟩

theorem toksOf_ok : ∀ (n : Nat) (l : List Nat), l.length ≤ n → (∀ x ∈ l, x ≤ 9999) → ∀ t ∈ toksOf l, tokOk t := by
  intro n
  induction n with
  | zero => intro l hl _; cases l with
    | nil => simp [toksOf]
    | cons a r => simp at hl
  | succ n ih =>
    intro l hl hx
    cases l with
    | nil => simp [toksOf]
    | cons a r =>
      have h := runEnd_le r 9999 a (hx a (by simp)) (fun x h => hx x (by simp [h]))
      intro t ht
      rw [toksOf] at ht
      rcases List.mem_append.1 ht with h1 | h1
      · exact toksRun_ok _ _ (runEnd_ge r a) h.1 t h1
      · exact ih _ (by have := runEnd_length r a; simp at hl; omega) h.2 t h1

theorem toksOf_ne (l : List Nat) (h : l ≠ []) : toksOf l ≠ [] := by
  cases l with
  | nil => exact absurd rfl h
  | cons a r => rw [toksOf]; have := toksRun_ne a (runEnd a r).1; intro e; exact this (List.append_eq_nil_iff.1 e).1

end Go.Proofs.YtdmggcbbfljciaaGreatDoor.CL
