/- a text of four numbers below 256 with points between: pure. -/
import Derived.Test.YtdmggcbbfljciaaGreatDoorPort2
namespace Go.Proofs.YtdmggcbbfljciaaGreatDoor
open Go.RowKit Go.Lib
namespace F4

/-- a step: the number, the groups, the digits of this group -/
def step (n g d c : Nat) : Option (Nat × Nat × Nat) :=
  if c = 46 then (if d = 0 then none else some (0, g + 1, 0))
  else if 48 ≤ c ∧ c ≤ 57 then (if (0 < d ∧ n = 0) ∨ 10 * n + (c - 48) > 255 then none else some (10 * n + (c - 48), g, d + 1))
  else none

def run : List UInt8 → Nat × Nat × Nat → Option (Nat × Nat × Nat)
  | [], st => some st
  | c :: r, st => (step st.1 st.2.1 st.2.2 c.toNat).bind (run r)

theorem run_append (a b : List UInt8) : ∀ st, run (a ++ b) st = (run a st).bind (run b) := by
  induction a with
  | nil => intro st; rfl
  | cons c r ih =>
    intro st
    show (step _ _ _ _).bind (run (r ++ b)) = ((step _ _ _ _).bind (run r)).bind (run b)
    cases step st.1 st.2.1 st.2.2 c.toNat with
    | none => rfl
    | some x => exact ih x

/-- a text of four figures' groups -/
def Is (l : List UInt8) : Prop := ∃ n d, run l (0, 1, 0) = some (n, 4, d) ∧ 0 < d

/-- the state behind i bytes -/
def At (l : List UInt8) (i n g d : Nat) : Prop := run (l.take i) (0, 1, 0) = some (n, g, d)

theorem At.zero (l : List UInt8) : At l 0 0 1 0 := rfl

theorem take_next (l : List UInt8) (i : Nat) (h : i < l.length) : l.take (i + 1) = l.take i ++ [l.getD i 0] := by
  rw [List.take_succ_eq_append_getElem h]
  simp [List.getD, List.getElem?_eq_getElem h]

theorem At.next {l : List UInt8} {i n g d : Nat} (h : At l i n g d) (hi : i < l.length) : run (l.take (i + 1)) (0, 1, 0) = step n g d (l.getD i 0).toNat := by
  rw [take_next l i hi, run_append, h]
  show (step n g d (l.getD i 0).toNat).bind (run []) = _
  cases step n g d (l.getD i 0).toNat <;> rfl

theorem run_mono (r : List UInt8) : ∀ st st', run r st = some st' → st.2.1 ≤ st'.2.1 := by
  induction r with
  | nil => intro st st' h; cases h; exact Nat.le_refl _
  | cons c r ih =>
    intro st st' h
    cases hs : step st.1 st.2.1 st.2.2 c.toNat with
    | none => rw [run, hs] at h; cases h
    | some x =>
      rw [run, hs] at h
      have h1 := ih x st' h
      have h2 : st.2.1 ≤ x.2.1 := by
        unfold step at hs
        split at hs
        · split at hs
          · cases hs
          · cases hs; exact Nat.le_succ _
        · split at hs
          · split at hs
            · cases hs
            · cases hs; exact Nat.le_refl _
          · cases hs
      exact Nat.le_trans h2 h1

/-- a text that is one has a state behind each of its bytes -/
theorem Is.at_ {l : List UInt8} (h : Is l) (i : Nat) : ∃ n g d n' d', At l i n g d ∧ run (l.drop i) (n, g, d) = some (n', 4, d') ∧ 0 < d' ∧ g ≤ 4 := by
  obtain ⟨n', d', h1, h2⟩ := h
  have e : l = l.take i ++ l.drop i := (List.take_append_drop i l).symm
  rw [e, run_append] at h1
  cases hr : run (l.take i) (0, 1, 0) with
  | none => rw [hr] at h1; cases h1
  | some x =>
    obtain ⟨n, g, d⟩ := x
    rw [hr] at h1
    exact ⟨n, g, d, n', d', hr, h1, h2, run_mono _ _ _ h1⟩

theorem At.inj {l : List UInt8} {i n g d n' g' d' : Nat} (h : At l i n g d) (h' : At l i n' g' d') : n = n' ∧ g = g' ∧ d = d' := by
  unfold At at h h'
  rw [h] at h'
  simp only [Option.some.injEq, Prod.mk.injEq] at h'
  exact h'

/-- what a step says of the byte -/
theorem step_some {n g d c : Nat} {st : Nat × Nat × Nat} (h : step n g d c = some st) : (c = 46 ∧ 0 < d ∧ st = (0, g + 1, 0)) ∨ (48 ≤ c ∧ c ≤ 57 ∧ ¬ (0 < d ∧ n = 0) ∧ 10 * n + (c - 48) ≤ 255 ∧ st = (10 * n + (c - 48), g, d + 1)) := by
  unfold step at h
  split at h
  · rename_i hc
    split at h
    · cases h
    · rename_i hd
      cases h
      exact Or.inl ⟨hc, Nat.pos_of_ne_zero hd, rfl⟩
  · split at h
    · rename_i hc
      split at h
      · cases h
      · rename_i hn
        cases h
        exact Or.inr ⟨hc.1, hc.2, fun e => hn (Or.inl e), Nat.le_of_not_lt fun e => hn (Or.inr e), rfl⟩
    · cases h

/-- the next byte of a text that is one -/
theorem Is.next {l : List UInt8} (h : Is l) {i n g d : Nat} (ha : At l i n g d) (hi : i < l.length) :
    ((l.getD i 0).toNat = 46 ∧ 0 < d ∧ g ≤ 3 ∧ i + 1 < l.length ∧ At l (i + 1) 0 (g + 1) 0) ∨
    (48 ≤ (l.getD i 0).toNat ∧ (l.getD i 0).toNat ≤ 57 ∧ ¬ (0 < d ∧ n = 0) ∧ 10 * n + ((l.getD i 0).toNat - 48) ≤ 255 ∧ At l (i + 1) (10 * n + ((l.getD i 0).toNat - 48)) g (d + 1)) := by
  obtain ⟨n1, g1, d1, n', d', h1, h2, h3, h4⟩ := h.at_ (i + 1)
  have hs := ha.next hi
  rw [h1] at hs
  rcases step_some hs.symm with ⟨e1, e2, e3⟩ | ⟨e1, e2, e3, e4, e5⟩
  · simp only [Prod.mk.injEq] at e3
    obtain ⟨rfl, rfl, rfl⟩ := e3
    refine Or.inl ⟨e1, e2, by omega, ?_, h1⟩
    apply Nat.lt_of_not_le
    intro hle
    rw [List.drop_eq_nil_of_le hle] at h2
    simp only [run, Option.some.injEq, Prod.mk.injEq] at h2
    omega
  · simp only [Prod.mk.injEq] at e5
    obtain ⟨rfl, rfl, rfl⟩ := e5
    exact Or.inr ⟨e1, e2, e3, e4, h1⟩

/-- a group without a digit is at the beginning, or behind a point -/
theorem At.digits {l : List UInt8} {i n g d : Nat} (h : At l (i + 1) n g d) (hi : i < l.length) (hd : 0 < d) : (l.getD i 0).toNat ≠ 46 := by
  unfold At at h
  rw [take_next l i hi, run_append] at h
  cases hr : run (l.take i) (0, 1, 0) with
  | none => rw [hr] at h; cases h
  | some x =>
    rw [hr] at h
    have h' : (step x.1 x.2.1 x.2.2 (l.getD i 0).toNat).bind (run []) = some (n, g, d) := h
    cases hs : step x.1 x.2.1 x.2.2 (l.getD i 0).toNat with
    | none => rw [hs] at h'; cases h'
    | some y =>
      rw [hs] at h'
      have h2 : y = (n, g, d) := by simpa [run] using h'
      intro e
      rcases step_some hs with ⟨_, _, e3⟩ | ⟨e1, _⟩
      · rw [h2] at e3; simp only [Prod.mk.injEq] at e3; omega
      · omega

/-- how long it may be -/
theorem At.len {l : List UInt8} : ∀ {i n g d : Nat}, At l i n g d → i ≤ l.length → 1 ≤ g ∧ d ≤ 3 ∧ n ≤ 255 ∧ (d = 2 → 10 ≤ n) ∧ (d = 3 → 100 ≤ n) ∧ i + 4 ≤ 4 * g + d := by
  intro i
  induction i with
  | zero =>
    intro n g d h _
    have := At.inj h (At.zero l)
    omega
  | succ i ih =>
    intro n g d h hi
    unfold At at h
    have hi' : i < l.length := hi
    cases hr : run (l.take i) (0, 1, 0) with
    | none => rw [take_next l i hi', run_append, hr] at h; cases h
    | some x =>
      obtain ⟨n0, g0, d0⟩ := x
      have h0 := ih (show At l i n0 g0 d0 from hr) (by omega)
      have hn := At.next (show At l i n0 g0 d0 from hr) hi'
      rw [h] at hn
      rcases step_some hn.symm with ⟨e1, e2, e3⟩ | ⟨e1, e2, e3, e4, e5⟩
      · simp only [Prod.mk.injEq] at e3
        omega
      · simp only [Prod.mk.injEq] at e5
        omega

theorem Is.len {l : List UInt8} (h : Is l) : l.length ≤ 15 := by
  obtain ⟨n, d, h1, h2⟩ := h
  have h3 : At l l.length n 4 d := by unfold At; rw [List.take_length]; exact h1
  have := h3.len (Nat.le_refl _)
  omega

/-- its bytes are figures and points -/
theorem Is.byte {l : List UInt8} (h : Is l) (i : Nat) (hi : i < l.length) : (l.getD i 0).toNat = 46 ∨ (48 ≤ (l.getD i 0).toNat ∧ (l.getD i 0).toNat ≤ 57) := by
  obtain ⟨n, g, d, _, _, ha, _⟩ := h.at_ i
  rcases h.next ha hi with h | h
  · exact Or.inl h.1
  · exact Or.inr ⟨h.1, h.2.1⟩

theorem Is.no {l : List UInt8} (h : Is l) (c : UInt8) (hc : c.toNat ≠ 46 ∧ ¬ (48 ≤ c.toNat ∧ c.toNat ≤ 57)) : c ∉ l := by
  intro hm
  obtain ⟨i, hi, rfl⟩ := List.getElem_of_mem hm
  have := h.byte i hi
  rw [List.getD, List.getElem?_eq_getElem hi, Option.getD_some] at this
  omega

theorem Is.ne {l : List UInt8} (h : Is l) : l ≠ [] := by
  rintro rfl
  obtain ⟨n, d, h1, h2⟩ := h
  simp [run] at h1

/-- it has a point -/
theorem Is.point {l : List UInt8} (h : Is l) : (46 : UInt8) ∈ l := by
  obtain ⟨n, d, h1, h2⟩ := h
  apply Classical.byContradiction
  intro hno
  have key : ∀ (r : List UInt8) (st st' : Nat × Nat × Nat), (46 : UInt8) ∉ r → run r st = some st' → st'.2.1 = st.2.1 := by
    intro r
    induction r with
    | nil => intro st st' _ h; cases h; rfl
    | cons c r ih =>
      intro st st' hm h
      cases hs : step st.1 st.2.1 st.2.2 c.toNat with
      | none => rw [run, hs] at h; cases h
      | some x =>
        rw [run, hs] at h
        have e := ih x st' (fun e => hm (List.mem_cons_of_mem _ e)) h
        rcases step_some hs with ⟨e1, _⟩ | ⟨_, _, _, _, e5⟩
        · exfalso
          apply hm
          have : c = 46 := UInt8.toNat_inj.1 e1
          rw [this]; exact List.mem_cons_self ..
        · rw [e, e5]
  have := key l _ _ hno h1
  simp at this
end F4
end Go.Proofs.YtdmggcbbfljciaaGreatDoor
