import Derived.Test.YtdmggcbbfljciaaGreatDoorCl2
namespace Go.Proofs.YtdmggcbbfljciaaGreatDoor.CL

def tb (ws : List Nat) (k : Nat) : Bool := (ws.getD (k / 64) 0).testBit (k % 64)
def setw (ws : List Nat) (i : Nat) : List Nat :=
  if i / 64 < ws.length then ws.set (i / 64) (ws.getD (i / 64) 0 ||| 2 ^ (i % 64))
  else ws ++ List.replicate (i / 64 - ws.length) 0 ++ [2 ^ (i % 64)]
/-- each word fits, and the last one is not nought -/
def Nrm (ws : List Nat) : Prop := (∀ x ∈ ws, x < 2 ^ 64) ∧ (ws ≠ [] → ws.getD (ws.length - 1) 0 ≠ 0)

theorem Nrm.nil : Nrm [] := ⟨by simp, by simp⟩

theorem getD_lt {ws : List Nat} (h : ∀ x ∈ ws, x < 2 ^ 64) (k : Nat) : ws.getD k 0 < 2 ^ 64 := by
  by_cases hk : k < ws.length
  · have e : ws.getD k 0 = ws[k] := by simp [List.getD, List.getElem?_eq_getElem hk]
    rw [e]; exact h _ (List.getElem_mem hk)
  · simp only [List.getD]; rw [List.getElem?_eq_none (by omega)]; simp

theorem setw_length (ws : List Nat) (i : Nat) : (setw ws i).length = max ws.length (i / 64 + 1) := by
  unfold setw
  split
  · simp; omega
  · simp; omega

theorem pow_lt (i : Nat) : 2 ^ (i % 64) < 2 ^ 64 := Nat.pow_lt_pow_right (by decide) (Nat.mod_lt _ (by decide))

theorem getD_set (ws : List Nat) (j k x : Nat) (hj : j < ws.length) : (ws.set j x).getD k 0 = if k = j then x else ws.getD k 0 := by
  simp only [List.getD, List.getElem?_set]
  by_cases h : j = k
  · subst h; simp [hj]
  · have : ¬ k = j := fun e => h e.symm
    simp [h, this]

theorem setw_getD (ws : List Nat) (i j : Nat) : (setw ws i).getD j 0 = if j = i / 64 then ws.getD j 0 ||| 2 ^ (i % 64) else ws.getD j 0 := by
  unfold setw
  by_cases h : i / 64 < ws.length
  · rw [if_pos h, getD_set _ _ _ _ h]
    by_cases h1 : j = i / 64
    · simp [h1]
    · simp [h1]
  · rw [if_neg h]
    have e : (ws ++ List.replicate (i / 64 - ws.length) 0).length = i / 64 := by simp; omega
    simp only [List.getD]
    by_cases h1 : j = i / 64
    · subst h1
      rw [List.getElem?_append_right (by omega), e]
      simp [List.getElem?_eq_none (show ws.length ≤ i / 64 by omega)]
    · rw [if_neg h1]
      by_cases h2 : j < i / 64
      · rw [List.getElem?_append_left (by omega)]
        by_cases h3 : j < ws.length
        · rw [List.getElem?_append_left h3]
        · rw [List.getElem?_append_right (by omega), List.getElem?_eq_none (l := ws) (by omega), List.getElem?_replicate, if_pos (by omega)]; rfl
      · rw [List.getElem?_eq_none (by simp; omega), List.getElem?_eq_none (l := ws) (by omega)]

theorem setw_nrm (ws : List Nat) (i : Nat) (h : Nrm ws) : Nrm (setw ws i) := by
  constructor
  · intro x hx
    obtain ⟨j, hj, rfl⟩ := List.getElem_of_mem hx
    have e : (setw ws i)[j] = (setw ws i).getD j 0 := by simp [List.getD, List.getElem?_eq_getElem hj]
    rw [e, setw_getD]
    split
    · exact Nat.or_lt_two_pow (getD_lt h.1 j) (pow_lt i)
    · exact getD_lt h.1 j
  · intro _
    rw [setw_getD, setw_length]
    split
    · rename_i he
      intro e
      have h1 := @Nat.right_le_or (ws.getD (max ws.length (i / 64 + 1) - 1) 0) (2 ^ (i % 64))
      have := Nat.two_pow_pos (i % 64)
      omega
    · rename_i hne
      have e : max ws.length (i / 64 + 1) = ws.length := by omega
      rw [e]
      exact h.2 (by intro e2; subst e2; simp at hne)

theorem tb_setw (ws : List Nat) (i k : Nat) : tb (setw ws i) k = (decide (k = i) || tb ws k) := by
  unfold tb
  rw [setw_getD]
  by_cases h : k / 64 = i / 64
  · rw [if_pos h, Nat.testBit_or, Nat.testBit_two_pow]
    by_cases h1 : k = i
    · subst h1; simp
    · have : ¬ i % 64 = k % 64 := by omega
      simp [h1, this]
  · rw [if_neg h]
    have : k ≠ i := fun e => h (by rw [e])
    simp [this]

theorem tb_nil (k : Nat) : tb [] k = false := by simp [tb]

theorem tb_beyond (ws : List Nat) (k : Nat) (h : 64 * ws.length ≤ k) : tb ws k = false := by
  unfold tb
  simp only [List.getD]
  rw [List.getElem?_eq_none (by omega)]
  simp

/-- two numbers of the same bits are the same words -/
theorem tb_ext {a b : List Nat} (ha : Nrm a) (hb : Nrm b) (h : ∀ k, tb a k = tb b k) : a = b := by
  have hw : ∀ j, a.getD j 0 = b.getD j 0 := by
    intro j
    refine Nat.eq_of_testBit_eq fun t => ?_
    by_cases ht : t < 64
    · have h1 := h (64 * j + t)
      unfold tb at h1
      rw [show (64 * j + t) / 64 = j by omega, show (64 * j + t) % 64 = t by omega] at h1
      exact h1
    · have h2 : 2 ^ 64 ≤ 2 ^ t := Nat.pow_le_pow_right (by decide) (by omega)
      rw [Nat.testBit_lt_two_pow (Nat.lt_of_lt_of_le (getD_lt ha.1 j) h2), Nat.testBit_lt_two_pow (Nat.lt_of_lt_of_le (getD_lt hb.1 j) h2)]
  have hlen : ∀ {x y : List Nat}, Nrm x → (∀ j, x.getD j 0 = y.getD j 0) → x.length ≤ y.length := by
    intro x y hx hxy
    by_cases hz : x = []
    · subst hz; simp
    · have h1 := hx.2 hz
      rw [hxy] at h1
      by_cases h2 : x.length ≤ y.length
      · exact h2
      · exfalso; apply h1
        simp only [List.getD]; rw [List.getElem?_eq_none (by have := List.length_pos_iff.2 hz; omega)]; rfl
  have e : a.length = b.length := Nat.le_antisymm (hlen ha hw) (hlen hb (fun j => (hw j).symm))
  refine List.ext_getElem e fun j h1 h2 => ?_
  have := hw j
  simpa [List.getD, List.getElem?_eq_getElem h1, List.getElem?_eq_getElem h2] using this

/-- bits of a word: where the highest lies -/
def smear (x : Nat) : Nat :=
  let a := x ||| x >>> 1
  let b := a ||| a >>> 2
  let c := b ||| b >>> 4
  let d := c ||| c >>> 8
  let e := d ||| d >>> 16
  e ||| (e >>> 16) >>> 16

theorem or_shift_lt (x n k : Nat) (h : x < 2 ^ n) : x ||| x >>> k < 2 ^ n := by
  refine Nat.or_lt_two_pow h (Nat.lt_of_le_of_lt ?_ h)
  rw [Nat.shiftRight_eq_div_pow]; exact Nat.div_le_self _ _
theorem smear_lt (x n : Nat) (h : x < 2 ^ n) : smear x < 2 ^ n := by
  unfold smear
  have h1 := or_shift_lt x n 1 h
  have h2 := or_shift_lt _ n 2 h1
  have h3 := or_shift_lt _ n 4 h2
  have h4 := or_shift_lt _ n 8 h3
  have h5 := or_shift_lt _ n 16 h4
  have h6 := or_shift_lt _ n 32 h5
  rw [Nat.shiftRight_add _ 16 16] at *
  exact h6
theorem smear_ge (x : Nat) : x ≤ smear x := by
  unfold smear
  refine Nat.le_trans (Nat.le_trans (Nat.le_trans (Nat.le_trans (Nat.le_trans ?_ Nat.left_le_or) Nat.left_le_or) Nat.left_le_or) Nat.left_le_or) Nat.left_le_or
  exact Nat.left_le_or

/-- a number whose highest bit is m: below 2 ^ (m + 1), not below 2 ^ m -/
theorem high_bit (x m : Nat) (h1 : 2 ^ m ≤ x) (h2 : x < 2 ^ (m + 1)) : x.testBit m = true ∧ ∀ t, m < t → x.testBit t = false := by
  constructor
  · rw [Nat.testBit_eq_decide_div_mod_eq]
    have : x / 2 ^ m = 1 := by
      apply Nat.div_eq_of_lt_le
      · simpa using h1
      · rw [Nat.pow_succ] at h2; omega
    simp [this]
  · intro t ht
    exact Nat.testBit_lt_two_pow (Nat.lt_of_lt_of_le h2 (Nat.pow_le_pow_right (by decide) (by omega)))

/-- THE LENGTH IN BITS: no bit from n on; the bit below n is set. -/
def BL (ws : List Nat) (n : Nat) : Prop := (∀ k, n ≤ k → tb ws k = false) ∧ (n = 0 ∨ tb ws (n - 1) = true) ∧ n ≤ 64 * ws.length

theorem BL.nil : BL [] 0 := ⟨fun k _ => tb_nil k, Or.inl rfl, by simp⟩

theorem BL.top {ws : List Nat} (hne : ws ≠ []) (_h : Nrm ws) (m : Nat) (hm : m < 64) (h1 : 2 ^ m ≤ ws.getD (ws.length - 1) 0) (h2 : ws.getD (ws.length - 1) 0 < 2 ^ (m + 1)) :
    BL ws ((ws.length - 1) * 64 + (m + 1)) := by
  have hp := List.length_pos_iff.2 hne
  have hb := high_bit _ m h1 h2
  refine ⟨?_, Or.inr ?_, by omega⟩
  · intro k hk
    by_cases h3 : 64 * ws.length ≤ k
    · exact tb_beyond ws k h3
    · unfold tb
      rw [show k / 64 = ws.length - 1 by omega]
      exact hb.2 _ (by omega)
  · unfold tb
    rw [show ((ws.length - 1) * 64 + (m + 1) - 1) / 64 = ws.length - 1 by omega, show ((ws.length - 1) * 64 + (m + 1) - 1) % 64 = m by omega]
    exact hb.1

/-- the low bits of a number that is nought but for 2 ^ t times another -/
theorem low_bits (x t m : Nat) (h : x = 2 ^ t * m) : ∀ j, j < t → x.testBit j = false := by
  intro j hj
  rw [h, Nat.testBit_two_pow_mul]
  simp; omega

/-- below n no bit is set -/
def TZ (ws : List Nat) (n : Nat) : Prop := (∀ k, k < n → tb ws k = false) ∧ n ≤ 64 * ws.length

theorem TZ.nil : TZ [] 0 := ⟨fun k h => absurd h (by omega), by simp⟩
theorem TZ.at_ {ws : List Nat} (i t : Nat) (hi : i < ws.length) (hz : ∀ j, j < i → ws.getD j 0 = 0) (ht : t < 64) (m : Nat) (h : ws.getD i 0 = 2 ^ t * m) : TZ ws (i * 64 + t) := by
  refine ⟨fun k hk => ?_, by omega⟩
  unfold tb
  by_cases h1 : k / 64 < i
  · rw [hz _ h1]; simp
  · rw [show k / 64 = i by omega]
    exact low_bits _ t m h _ (by omega)

/-- and: word by word -/
def andw (a b : List Nat) : List Nat := List.zipWith (· &&& ·) a b
/-- without the noughts at the end -/
def normw (ws : List Nat) : Nat → List Nat
  | 0 => []
  | i + 1 => if ws.getD i 0 = 0 then normw ws i else ws.take (i + 1)

theorem tb_take (ws : List Nat) (n : Nat) (h : ∀ j, n ≤ j → ws.getD j 0 = 0) (k : Nat) : tb (ws.take n) k = tb ws k := by
  unfold tb
  congr 1
  by_cases h1 : k / 64 < n
  · simp [List.getD, h1]
  · rw [h _ (by omega)]
    simp only [List.getD, List.getElem?_take]
    rw [if_neg h1]; rfl

theorem normw_spec (ws : List Nat) (hw : ∀ x ∈ ws, x < 2 ^ 64) : ∀ n, n ≤ ws.length → (∀ j, n ≤ j → ws.getD j 0 = 0) →
    ∃ m, m ≤ n ∧ normw ws n = ws.take m ∧ Nrm (normw ws n) ∧ ∀ k, tb (normw ws n) k = tb ws k := by
  intro n
  induction n with
  | zero => intro _ h; exact ⟨0, Nat.le_refl _, by simp [normw], by simp [normw]; exact Nrm.nil, fun k => by
      simp only [normw]
      rw [← tb_take ws 0 h k]; simp⟩
  | succ n ih =>
    intro hn h
    simp only [normw]
    split
    · rename_i hz
      obtain ⟨m, h1, h2⟩ := ih (by omega) (fun j hj => if e : j = n then e ▸ hz else h j (by omega))
      exact ⟨m, by omega, h2⟩
    · rename_i hz
      refine ⟨n + 1, Nat.le_refl _, rfl, ⟨fun x hx => hw x (List.mem_of_mem_take hx), fun _ => ?_⟩, fun k => tb_take ws _ h k⟩
      have e : (ws.take (n + 1)).length = n + 1 := by simp; omega
      rw [e]
      simpa [List.getD, List.getElem?_take] using hz

theorem tb_andw (a b : List Nat) (k : Nat) : tb (andw a b) k = (tb a k && tb b k) := by
  unfold tb andw
  simp only [List.getD, List.getElem?_zipWith]
  cases h1 : a[k / 64]? <;> cases h2 : b[k / 64]? <;> simp [Nat.testBit_and]

end Go.Proofs.YtdmggcbbfljciaaGreatDoor.CL
