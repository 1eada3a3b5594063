/- a specification's text, cut at its colons: pure. -/
import Derived.Test.YtdmggcbbfljciaaGreatDoorTrip
import Derived.Test.YtdmggcbbfljciaaGreatDoorNSplit
namespace Go.Proofs.YtdmggcbbfljciaaGreatDoor
open Go.RowKit Go.Lib

/-- the pieces of an address of the sixth version in brackets -/
def sixP (l : List UInt8) : List (List UInt8) :=
  if l = [58, 58, 49] then [[91], [], [49, 93]]
  else if l = [58, 58] then [[91], [], [93]]
  else if l = [50, 48, 48, 49, 58, 100, 98, 56, 58, 58, 49] then [[91, 50, 48, 48, 49], [100, 98, 56], [], [49, 93]]
  else [[91, 102, 101, 56, 48], [], [97, 93]]

theorem six_cases {P : List UInt8 → Prop} (h1 : P [58, 58, 49]) (h2 : P [58, 58]) (h3 : P [50, 48, 48, 49, 58, 100, 98, 56, 58, 58, 49]) (h4 : P [102, 101, 56, 48, 58, 58, 97]) : ∀ l, sixL l → P l := by
  rintro l (rfl | rfl | rfl | rfl)
  · exact h1
  · exact h2
  · exact h3
  · exact h4

theorem sixP_join (l : List UInt8) (h : sixL l) : CL.joinC 58 (sixP l) = 91 :: l ++ [93] := by
  revert l; exact six_cases (by decide) (by decide) (by decide) (by decide)
theorem sixP_no (l : List UInt8) (h : sixL l) : ∀ p ∈ sixP l, (58 : UInt8) ∉ p := by
  revert l; exact six_cases (by decide) (by decide) (by decide) (by decide)
theorem sixP_len (l : List UInt8) (h : sixL l) : 3 ≤ (sixP l).length ∧ (sixP l).length ≤ 4 := by
  revert l; exact six_cases (by decide) (by decide) (by decide) (by decide)
theorem six_no (l : List UInt8) (h : sixL l) : (91 : UInt8) ∉ l ∧ (93 : UInt8) ∉ l ∧ (37 : UInt8) ∉ l ∧ (46 : UInt8) ∉ l ∧ l ≠ [] ∧ l.length ≤ 11 := by
  revert l; exact six_cases (by decide) (by decide) (by decide) (by decide)

theorem f4_six {l : List UInt8} (h : F4.Is l) : ¬ sixL l := by
  intro hs
  exact (six_no l hs).2.2.2.1 h.point

theorem numT_no (a b : Nat) : (58 : UInt8) ∉ numT a b := by
  have h : ∀ n, (58 : UInt8) ∉ decDigits n := fun n => CL.dec_no n 58 (CL.not_dg 58 (by omega))
  unfold numT
  split
  · exact h a
  · intro e
    rcases List.mem_append.1 e with e | e
    · exact h a e
    · rcases List.mem_cons.1 e with e | e
      · cases e
      · exact h b e

theorem numT_ne' (a b : Nat) : numT a b ≠ [] := by
  unfold numT
  split
  · exact CL.dec_ne a
  · simp

theorem Pub.host_no (p : Pub) : (58 : UInt8) ∉ p.hostT := by
  unfold Pub.hostT
  split
  · simp
  · exact numT_no _ _
theorem Pub.out_no {p : Pub} (h : p.Ok) : (58 : UInt8) ∉ p.outT := by
  unfold Pub.outT
  intro e
  rcases List.mem_append.1 e with e | e
  · exact numT_no _ _ e
  · rcases List.mem_cons.1 e with e | e
    · cases e
    · rcases h.pr with h | h | h <;> rw [h] at e <;> revert e <;> decide

theorem Pub.host_nil (p : Pub) : p.hostT = [] ↔ p.h = 0 := by
  unfold Pub.hostT
  split
  · rename_i h; simp [h]
  · rename_i h; exact ⟨fun e => absurd e (numT_ne' _ _), fun e => absurd e h⟩

theorem Pub.text_out {p : Pub} (h0 : p.ip = []) (h1 : p.h = 0) : p.text = p.outT := by
  have e2 : p.hostT = [] := p.host_nil.2 h1
  rw [Pub.text, if_neg (fun e => e h0), if_neg (fun e => e e2)]
theorem Pub.text_host {p : Pub} (h0 : p.ip = []) (h1 : ¬ p.h = 0) : p.text = p.hostT ++ 58 :: p.outT := by
  rw [Pub.text, if_neg (fun e => e h0), if_pos (fun e => h1 (p.host_nil.1 e))]
theorem Pub.text_ip {p : Pub} (h0 : ¬ p.ip = []) : p.text = p.ipT ++ 58 :: (p.hostT ++ 58 :: p.outT) := by
  rw [Pub.text, if_pos h0]

theorem numT_len' (a b : Nat) (ha : a ≤ 65535) (hb : b ≤ 65535) : (numT a b).length ≤ 131073 := by
  have h1 := dec_len a
  have h2 := dec_len b
  unfold numT
  split
  · omega
  · simp; omega

theorem Pub.out_len {p : Pub} (h : p.Ok) : p.outT.length ≤ 131080 := by
  have h1 := numT_len' p.a p.b (Nat.le_trans h.ab h.b9) h.b9
  have h2 : p.proto.length ≤ 4 := by rcases h.pr with h | h | h <;> rw [h] <;> decide
  unfold Pub.outT
  simp; omega
theorem Pub.host_len {p : Pub} (h : p.Ok) : p.hostT.length ≤ 131073 := by
  unfold Pub.hostT
  split
  · simp
  · rcases h.host with ⟨e, _⟩ | ⟨e1, e2, e3, _⟩
    · omega
    · exact numT_len' _ _ (by omega) e3
theorem Pub.ip_len {p : Pub} (h : p.Ok) : p.ip.length ≤ 15 ∧ p.ipT.length ≤ 17 := by
  have h1 : p.ip.length ≤ 15 := by
    rcases h.ip with e | e | e
    · rw [e]; simp
    · exact e.len
    · have := (six_no _ e).2.2.2.2.2; omega
  refine ⟨h1, ?_⟩
  unfold Pub.ipT
  split
  · simp; omega
  · omega
theorem Pub.text_len {p : Pub} (h : p.Ok) : p.text.length ≤ 300000 := by
  have h1 := Pub.out_len h
  have h2 := Pub.host_len h
  have h3 := (Pub.ip_len h).2
  unfold Pub.text
  split
  · simp; omega
  · split
    · simp; omega
    · omega
end Go.Proofs.YtdmggcbbfljciaaGreatDoor
