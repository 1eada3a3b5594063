/- spec.Word: which texts are words of a label. -/
import Derived.Test.YtaloidnoeafgiaaGreatDoorWorks
namespace Go.Proofs.YtaloidnoeafgiaaGreatDoor
open Go.RowKit Go.Lib

/-- a sign of a word -/
def wch (c : Nat) : Bool := (decide (97 ≤ c) && decide (c ≤ 122)) || (decide (65 ≤ c) && decide (c ≤ 90)) || (decide (48 ≤ c) && decide (c ≤ 57)) || decide (c = 95) || decide (c = 46)
/-- a word -/
def wordB (s : ByteArray) : Bool := s.data.toList.all (fun c => wch c.toNat) && (decide (s.size ≠ 0) && decide (s.size < 100))
/-- a level's signs -/
def lvlB (s : ByteArray) : Bool := s.data.toList.all fun c => decide (33 ≤ c.toNat) && decide (c.toNat ≤ 126)
/-- a label -/
def labB (u r t l : ByteArray) : Bool := lvlB l && (wordB u && (wordB r && (wordB t && decide (l.size < 300))))

theorem byte_at (s : ByteArray) (i : Nat) (h : i < s.size) : s[i] = s.data.toList.getD i 0 := by
  have h1 : i < s.data.toList.length := by rw [← Lib.size_eq]; exact h
  simp only [List.getD, List.getElem?_eq_getElem h1, Option.getD_some]
  rfl

theorem all_of (s : ByteArray) (p : UInt8 → Bool) (h : ∀ t, t < s.size → p (s.data.toList.getD t 0) = true) : s.data.toList.all p = true := by
  rw [List.all_eq_true]
  intro x hx
  obtain ⟨t, ht, rfl⟩ := List.getElem_of_mem hx
  have := h t (by rw [Lib.size_eq]; exact ht)
  simpa [List.getD, List.getElem?_eq_getElem ht] using this

theorem all_not (s : ByteArray) (p : UInt8 → Bool) (i : Nat) (hi : i < s.size) (h : p (s.data.toList.getD i 0) = false) : s.data.toList.all p = false := by
  rw [Bool.eq_false_iff]
  intro h1
  rw [List.all_eq_true] at h1
  have h2 : i < s.data.toList.length := by rw [← Lib.size_eq]; exact hi
  have := h1 _ (List.getElem_mem h2)
  simp only [List.getD, List.getElem?_eq_getElem h2, Option.getD_some] at h
  rw [h] at this; cases this

set_option maxRecDepth 100000 in
set_option maxHeartbeats 2000000 in
theorem word_any (s : ByteArray) (hl : s.size ≤ 281474976710656) (w : World) :
    Calls Tryz.prog 14 #[.string s] w fun e w' => e = .returned (.bool (wordB s)) ∧ w' = w := by
  go_enter Tryz.func14, Tryz.ntmps14
  go_wp2_with fail
  go_loopg [7] (s.size + 1) (fun m iv wr => ∃ i : Nat, iv = .int .i64 i ∧ Hid (m + i = s.size + 1) ∧ Hid (i ≤ s.size) ∧ Hid (∀ t, t < i → wch (s.data.toList.getD t 0).toNat = true) ∧ wr = w)
  case atStart => exact ⟨0, rfl, rfl, Nat.zero_le _, fun t ht => absurd ht (Nat.not_lt_zero t), rfl⟩
  case round =>
    obtain ⟨i, rfl, hm, hi, hn, rfl⟩ := hrel
    by_cases hin : i < s.size
    · have hlt : decide ((i : Int) < (s.size : Int)) = true := by simp; omega
      have hbi := Lib.hid (byte_at s i hin)
      by_cases hq : wch s[i].toNat = true
      · have H : Hid (wch (s.data.toList.getD i 0).toNat = true) := by
          show _ = _
          rw [← hbi.out]; exact hq
        simp only [wch, Bool.or_eq_true, Bool.and_eq_true, decide_eq_true_eq] at hq
        obtain ⟨b1, e1, q1⟩ : ∃ b : Bool, ((s[i].toNat : Int) == 95) = b ∧ (b = true ↔ s[i].toNat = 95) := ⟨_, rfl, by simp; omega⟩
        obtain ⟨b2, e2, q2⟩ : ∃ b : Bool, ((s[i].toNat : Int) == 46) = b ∧ (b = true ↔ s[i].toNat = 46) := ⟨_, rfl, by simp; omega⟩
        cases b1 <;> cases b2 <;> simp only [Bool.false_eq_true, false_iff, true_iff] at q1 q2
        all_goals go_wp2_with fail
        all_goals first
          | (exfalso; omega)
          | (go_roundg (gk - 1)
             case measure => have := hm.out; have := hi.out; omega
             case rel =>
               have e1 := hm.out
               refine ⟨i + 1, by go_num, show _ = _ by omega, show _ ≤ _ by omega, ?_, rfl⟩
               intro t ht
               by_cases hti : t = i
               · rw [hti]; exact H.out
               · exact hn.out t (by omega))
      · have H : Hid (wordB s = false) := by
          show _ = _
          unfold wordB
          rw [all_not s _ i hin (by rw [← hbi.out]; simpa using hq)]; rfl
        simp only [wch, Bool.or_eq_true, Bool.and_eq_true, decide_eq_true_eq] at hq
        have b1 : ((s[i].toNat : Int) == 95) = false := by simp; omega
        have b2 : ((s[i].toNat : Int) == 46) = false := by simp; omega
        obtain ⟨d1, e1, q1⟩ : ∃ b : Bool, decide ((s[i].toNat : Int) ≤ 122) = b ∧ (b = true ↔ s[i].toNat ≤ 122) := ⟨_, rfl, by simp; omega⟩
        obtain ⟨d2, e2, q2⟩ : ∃ b : Bool, decide ((s[i].toNat : Int) ≤ 90) = b ∧ (b = true ↔ s[i].toNat ≤ 90) := ⟨_, rfl, by simp; omega⟩
        obtain ⟨d3, e3, q3⟩ : ∃ b : Bool, decide ((s[i].toNat : Int) ≤ 57) = b ∧ (b = true ↔ s[i].toNat ≤ 57) := ⟨_, rfl, by simp; omega⟩
        cases d1 <;> cases d2 <;> cases d3 <;> simp only [Bool.false_eq_true, false_iff, true_iff] at q1 q2 q3
        all_goals try (exfalso; omega)
        all_goals go_wp2_with fail
        all_goals first
          | (exfalso; omega)
          | (go_ret
             exact ⟨show Ending.returned (.bool false) = _ by rw [H.out], rfl⟩)
    · have hlt : decide ((i : Int) < (s.size : Int)) = false := by simp; omega
      have H : Hid (wordB s = (decide (s.size ≠ 0) && decide (s.size < 100))) := by
        show _ = _
        unfold wordB
        rw [all_of s _ (fun t ht => hn.out t (by have := hi.out; omega))]; rfl
      by_cases h0 : s.size = 0
      · have h1 := (str_nil s (List.eq_nil_of_length_eq_zero (by rw [← Lib.size_eq]; exact h0))).1
        go_wp2_with fail
        go_ret
        exact ⟨show Ending.returned (.bool false) = _ by rw [H.out, h0]; rfl, rfl⟩
      · have h1 := (str_some s (fun e => h0 (by rw [Lib.size_eq, e]; rfl))).1
        have Hd : Hid (decide ((s.size : Int) < 100) = decide (s.size < 100)) := by show _ = _; congr 1; apply propext; omega
        go_wp2_with fail
        go_ret
        exact ⟨show Ending.returned (.bool (decide ((s.size : Int) < 100))) = _ by rw [H.out, Hd.out]; simp [h0], rfl⟩
end Go.Proofs.YtaloidnoeafgiaaGreatDoor
