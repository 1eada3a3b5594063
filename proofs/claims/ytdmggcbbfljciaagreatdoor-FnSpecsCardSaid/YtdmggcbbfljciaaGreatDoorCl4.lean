import Derived.Test.YtdmggcbbfljciaaGreatDoorCl3
import Derived.Lib.ParseIntB
namespace Go.Proofs.YtdmggcbbfljciaaGreatDoor.CL
open Go.Lib (decDigits parseUintM parseUintB)

def Dg (c : UInt8) : Prop := 48 ≤ c.toNat ∧ c.toNat ≤ 57

theorem dg_of (n : Nat) (h : n < 10) : (UInt8.ofNat (48 + n)).toNat = 48 + n := by
  rw [UInt8.toNat_ofNat']; omega

theorem dec_digits (n : Nat) : ∀ c ∈ decDigits n, Dg c := by
  induction n using Nat.strongRecOn with
  | _ n ih =>
    intro c hc
    rw [decDigits] at hc
    split at hc
    · rename_i h
      rw [List.mem_singleton] at hc; subst hc
      unfold Dg; rw [dg_of n h]; omega
    · rename_i h
      rcases List.mem_append.1 hc with h1 | h1
      · exact ih (n / 10) (by omega) c h1
      · simp only [List.mem_singleton] at h1; subst h1
        unfold Dg; rw [dg_of _ (Nat.mod_lt _ (by decide))]; omega

theorem dec_ne (n : Nat) : decDigits n ≠ [] := by
  rw [decDigits]; split <;> simp

theorem dec_no (n : Nat) (c : UInt8) (h : ¬ Dg c) : c ∉ decDigits n := fun hc => h (dec_digits n c hc)

theorem parse_append (M : Nat) (a b : Bs) : ∀ acc u, parseUintM M acc a = .ok u → parseUintM M acc (a ++ b) = parseUintM M u b := by
  induction a with
  | nil => intro acc u h; simp [parseUintM] at h; subst h; rfl
  | cons c r ih =>
    intro acc u h
    rw [List.cons_append]
    rw [parseUintM] at h
    rw [parseUintM]
    split
    · rename_i h1
      rw [if_pos h1] at h
      split
      · rename_i h2; rw [if_pos h2] at h; cases h
      · rename_i h2
        rw [if_neg h2] at h
        split
        · rename_i h3; rw [if_pos h3] at h; cases h
        · rename_i h3; rw [if_neg h3] at h; exact ih _ _ h
    · rename_i h1; rw [if_neg h1] at h; cases h

theorem parse_dec (M : Nat) (hM : M < 2 ^ 63) (n : Nat) : n ≤ M → parseUintM M 0 (decDigits n) = .ok n := by
  induction n using Nat.strongRecOn with
  | _ n ih =>
    intro hn
    rw [decDigits]
    split
    · rename_i h
      unfold parseUintM
      rw [dg_of n h, if_pos (by omega), if_neg (by omega), if_neg (by omega)]
      unfold parseUintM
      congr 1; omega
    · rename_i h
      rw [parse_append M _ _ 0 (n / 10) (ih _ (by omega) (by omega))]
      unfold parseUintM
      rw [dg_of _ (Nat.mod_lt _ (by decide)), if_pos (by omega), if_neg (by omega), if_neg (by omega)]
      unfold parseUintM
      congr 1; omega

theorem parseB_dec (n : Nat) (h : n < 2 ^ 31) : parseUintB 31 (decDigits n) = .ok n := by
  unfold parseUintB
  rw [if_neg (dec_ne n)]
  exact parse_dec _ (by decide) n (by omega)

/-- the bytes of categories -/
def Cc (c : UInt8) : Prop := c = 99 ∨ c = 46 ∨ c = 44 ∨ Dg c

theorem tokT_bytes (t : Nat × Nat) : ∀ c ∈ tokT t, c = 99 ∨ c = 46 ∨ Dg c := by
  unfold tokT
  intro c hc
  split at hc
  · rcases List.mem_cons.1 hc with h | h
    · exact Or.inl h
    · exact Or.inr (Or.inr (dec_digits _ c h))
  · rcases List.mem_cons.1 hc with h | h
    · exact Or.inl h
    · rcases List.mem_append.1 h with h | h
      · exact Or.inr (Or.inr (dec_digits _ c h))
      · rcases List.mem_cons.1 h with h | h
        · exact Or.inr (Or.inl h)
        · rcases List.mem_cons.1 h with h | h
          · exact Or.inl h
          · exact Or.inr (Or.inr (dec_digits _ c h))

theorem Dg.ne {c d : UInt8} (h : Dg c) (hd : ¬ Dg d) : c ≠ d := fun e => hd (e ▸ h)
theorem not_dg (n : Nat) (h : n < 48 ∨ (57 < n ∧ n < 256)) : ¬ Dg (UInt8.ofNat n) := by
  unfold Dg; rw [UInt8.toNat_ofNat']; omega

theorem tokT_no_comma (t : Nat × Nat) : (44 : UInt8) ∉ tokT t := by
  intro h
  rcases tokT_bytes t 44 h with h | h | h
  · exact absurd h (by decide)
  · exact absurd h (by decide)
  · exact not_dg 44 (by omega) h

theorem joinC_bytes (c : UInt8) (p : List Bs) (x : UInt8) (h : x ∈ joinC c p) : x = c ∨ ∃ s ∈ p, x ∈ s := by
  induction p with
  | nil => simp [joinC] at h
  | cons a r ih =>
    by_cases hr : r = []
    · subst hr; exact Or.inr ⟨a, by simp, by simpa [joinC] using h⟩
    · rw [joinC_cons c a r hr] at h
      rcases List.mem_append.1 h with h | h
      · exact Or.inr ⟨a, by simp, h⟩
      · rcases List.mem_cons.1 h with h | h
        · exact Or.inl h
        · rcases ih h with h | ⟨s, hs, h⟩
          · exact Or.inl h
          · exact Or.inr ⟨s, by simp [hs], h⟩

theorem tks_bytes (p : List (Nat × Nat)) : ∀ c ∈ tks p, Cc c := by
  intro c hc
  rcases joinC_bytes 44 _ c hc with h | ⟨s, hs, h⟩
  · exact Or.inr (Or.inr (Or.inl h))
  · obtain ⟨t, _, rfl⟩ := List.mem_map.1 hs
    rcases tokT_bytes t c h with h | h | h
    · exact Or.inl h
    · exact Or.inr (Or.inl h)
    · exact Or.inr (Or.inr (Or.inr h))

/-- a level's text, by its tokens -/
def lvT (s : Nat) (p : List (Nat × Nat)) : Bs := 115 :: decDigits s ++ (if p = [] then [] else 58 :: tks p)

theorem lvT_no_dash (s : Nat) (p : List (Nat × Nat)) : (45 : UInt8) ∉ lvT s p := by
  unfold lvT
  intro h
  rcases List.mem_append.1 h with h | h
  · rcases List.mem_cons.1 h with h | h
    · exact absurd h (by decide)
    · exact not_dg 45 (by omega) (dec_digits _ _ h)
  · split at h
    · simp at h
    · rcases List.mem_cons.1 h with h | h
      · exact absurd h (by decide)
      · rcases tks_bytes p _ h with h | h | h | h
        · exact absurd h (by decide)
        · exact absurd h (by decide)
        · exact absurd h (by decide)
        · exact not_dg 45 (by omega) h

/-- the categories one by one, the last one ahead -/
def looseP (l : List Nat) : List (Nat × Nat) := l.reverse.map (fun c => (c, c))
theorem looseP_mem (l : List Nat) (k : Nat) : (∃ t ∈ looseP l, inTok k t) ↔ k ∈ l := by
  unfold looseP inTok
  constructor
  · rintro ⟨t, ht, h1, h2⟩
    obtain ⟨c, hc, rfl⟩ := List.mem_map.1 ht
    have : k = c := Nat.le_antisymm h2 h1
    subst this
    exact List.mem_reverse.1 hc
  · intro h
    exact ⟨(k, k), List.mem_map.2 ⟨k, List.mem_reverse.2 h, rfl⟩, Nat.le_refl _, Nat.le_refl _⟩
theorem looseP_ok (l : List Nat) (h : ∀ x ∈ l, x ≤ 9999) : ∀ t ∈ looseP l, tokOk t := by
  unfold looseP tokOk
  intro t ht
  obtain ⟨c, hc, rfl⟩ := List.mem_map.1 ht
  exact ⟨Nat.le_refl _, h c (List.mem_reverse.1 hc)⟩
theorem looseP_ne (l : List Nat) (h : l ≠ []) : looseP l ≠ [] := by
  unfold looseP; simpa using h

/-- what is written of the last i categories, the last ahead -/
theorem looseP_take (l : List Nat) (i : Nat) (hi : i < l.length) : (looseP l).take (i + 1) = (looseP l).take i ++ [(l.getD (l.length - 1 - i) 0, l.getD (l.length - 1 - i) 0)] := by
  unfold looseP
  rw [List.take_succ_eq_append_getElem (by simpa using hi)]
  congr 2
  simp [List.getD, List.getElem?_eq_getElem (show l.length - 1 - i < l.length by omega)]

end Go.Proofs.YtdmggcbbfljciaaGreatDoor.CL
