/- texts of the sixth version, as netip reads them: pure. -/
import Derived.Test.YtdmggcbbfljciaaGreatDoorPieces
namespace Go.Proofs.YtdmggcbbfljciaaGreatDoor
open Go.RowKit Go.Lib

theorem byte_get (s : ByteArray) (i : Nat) (h : i < s.size) : s[i].toNat = (s.data.toList.getD i 0).toNat := by
  have h1 : i < s.data.toList.length := by rw [← Lib.size_eq]; exact h
  have e : s[i] = s.data.toList[i] := by
    rw [Array.getElem_toList]; rfl
  rw [e]
  simp [List.getD, List.getElem?_eq_getElem h1]

namespace G6
/-- a hexadecimal figure of small letters -/
def hex (c : UInt8) : Prop := (48 ≤ c.toNat ∧ c.toNat ≤ 57) ∨ (97 ≤ c.toNat ∧ c.toNat ≤ 102)
/-- its value -/
def hv (c : UInt8) : Nat := if c.toNat ≤ 57 then c.toNat - 48 else c.toNat - 87

/-- one to four figures -/
def Grp (r : List UInt8) : Prop := (∀ c ∈ r, hex c) ∧ 1 ≤ r.length ∧ r.length ≤ 4

/-- what is left of an address, n groups: i bytes are written, the gap (if it was met) lies at e -/
def Good : Nat → List UInt8 → Nat → Int → Prop
  | 0, _, _, _ => False
  | n + 1, s, i, e =>
    (n = 0 ∧ Grp s ∧ 0 ≤ e ∧ e ≤ (i : Int) ∧ i + 2 ≤ 14) ∨
    (∃ r t, s = r ++ 58 :: t ∧ Grp r ∧ t.getD 0 58 ≠ 58 ∧ i + 2 ≤ 12 ∧ Good n t (i + 2) e) ∨
    (∃ r t, s = r ++ 58 :: 58 :: t ∧ Grp r ∧ t ≠ [] ∧ e = -1 ∧ i + 2 ≤ 12 ∧ Good n t (i + 2) ((i + 2 : Nat) : Int))

theorem grp_dec (r : List UInt8) (h : r.all (fun c => decide (48 ≤ c.toNat) && decide (c.toNat ≤ 57) || decide (97 ≤ c.toNat) && decide (c.toNat ≤ 102)) = true) (h1 : 1 ≤ r.length) (h2 : r.length ≤ 4) : Grp r := by
  refine ⟨fun c hc => ?_, h1, h2⟩
  have := List.all_eq_true.1 h c hc
  simp at this
  exact this

theorem good1 : Good 1 [49] 0 0 := Or.inl ⟨rfl, grp_dec _ (by decide) (by decide) (by decide), by decide, by decide, by decide⟩
theorem good2 : Good 3 [50, 48, 48, 49, 58, 100, 98, 56, 58, 58, 49] 0 (-1) :=
  Or.inr (Or.inl ⟨[50, 48, 48, 49], [100, 98, 56, 58, 58, 49], rfl, grp_dec _ (by decide) (by decide) (by decide), by decide, by decide,
    Or.inr (Or.inr ⟨[100, 98, 56], [49], rfl, grp_dec _ (by decide) (by decide) (by decide), by decide, rfl, by decide,
      Or.inl ⟨rfl, grp_dec _ (by decide) (by decide) (by decide), by decide, by decide, by decide⟩⟩)⟩)
theorem good3 : Good 2 [102, 101, 56, 48, 58, 58, 97] 0 (-1) :=
  Or.inr (Or.inr ⟨[102, 101, 56, 48], [97], rfl, grp_dec _ (by decide) (by decide) (by decide), by decide, rfl, by decide,
    Or.inl ⟨rfl, grp_dec _ (by decide) (by decide) (by decide), by decide, by decide, by decide⟩⟩)

/-- the value of a group's first figures -/
def val : List UInt8 → Nat → Nat
  | [], a => a
  | c :: r, a => val r (a * 16 + hv c)
theorem hv_lt (c : UInt8) (h : hex c) : hv c < 16 := by
  unfold hv
  rcases h with h | h
  · rw [if_pos h.2]; omega
  · rw [if_neg (by omega)]; omega
end G6
end Go.Proofs.YtdmggcbbfljciaaGreatDoor
