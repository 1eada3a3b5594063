/- spec.has; selabels.contains, IsShared, RelabelNeeded, Validate. -/
import Derived.Test.YtaloidnoeafgiaaDoorSpec1
namespace Go.Proofs.YtaloidnoeafgiaaDoor
open Go.RowKit Go.Lib

theorem split_at (c : UInt8) (l : List UInt8) (h : c ∈ l) : ∃ a b, l = a ++ c :: b ∧ c ∉ a := by
  induction l with
  | nil => cases h
  | cons x r ih =>
    by_cases hx : x = c
    · subst hx; exact ⟨[], r, rfl, by simp⟩
    · have hr : c ∈ r := by
        rcases List.mem_cons.1 h with e | e
        · exact absurd e.symm hx
        · exact e
      obtain ⟨a, b, rfl, hn⟩ := ih hr
      refine ⟨x :: a, b, rfl, ?_⟩
      intro e
      rcases List.mem_cons.1 e with e | e
      · exact hx e.symm
      · exact hn e

set_option maxRecDepth 100000 in
set_option maxHeartbeats 1000000 in
theorem contains_any (s : ByteArray) (c : UInt8) (hl : s.size ≤ 1000000) (w : World) :
    Calls Tryd.prog 62 #[.string s, .string ⟨#[c]⟩] w fun e w' => Told e (c ∈ s.data.toList) ∧ w' = w := by
  by_cases h : c ∈ s.data.toList
  · obtain ⟨a, b, hs, ha⟩ := split_at c _ h
    have H := Lib.hid h
    have hi := Lib.hid (index_hit s c a b hs ha (by omega))
    have hg : decide ((a.length : Int) ≥ 0) = true := by simp
    clear h hs ha
    go_enter Tryd.func62, Tryd.ntmps62
    go_wp2_with fail
    refine (hi.out _).mono ?_
    rintro e w2 ⟨rfl, rfl⟩
    go_wp2
    go_ret
    exact ⟨Told.t H.out, rfl⟩
  · have H := Lib.hid h
    have hi := Lib.hid (index_miss s c h (by omega))
    clear h
    go_enter Tryd.func62, Tryd.ntmps62
    go_wp2_with fail
    refine (hi.out _).mono ?_
    rintro e w2 ⟨rfl, rfl⟩
    go_wp2
    go_ret
    exact ⟨Told.f H.out, rfl⟩

set_option maxRecDepth 100000 in
set_option maxHeartbeats 1000000 in
theorem has_any (s : ByteArray) (k : Nat) (hk : k < 256) (hl : s.size ≤ 1000) (w : World) :
    Calls Tryd.prog 44 #[.string s, .int .u8 k] w fun e w' => Told e (UInt8.ofNat k ∈ s.data.toList) ∧ w' = w := by
  have hsl := Lib.hid (Lib.size_eq s)
  go_enter Tryd.func44, Tryd.ntmps44
  go_wp2_with fail
  go_loopg [8] (s.size + 1) (fun m iv wr => ∃ i : Nat, iv = .int .i64 i ∧ Hid (m + i = s.size + 1) ∧ Hid (i ≤ s.size) ∧ Hid (∀ t, t < i → s.data.toList.getD t 0 ≠ UInt8.ofNat k) ∧ wr = w)
  case atStart => exact ⟨0, rfl, rfl, Nat.zero_le _, fun t ht => absurd ht (Nat.not_lt_zero t), rfl⟩
  case round =>
    obtain ⟨i, rfl, hm, hi, hn, rfl⟩ := hrel
    by_cases hin : i < s.size
    · have hlt : decide ((i : Int) < (s.size : Int)) = true := by simp; omega
      have hbi : s[i] = s.data.toList.getD i 0 := by
        have h1 : i < s.data.toList.length := by rw [← hsl.out]; exact hin
        simp only [List.getD, List.getElem?_eq_getElem h1, Option.getD_some]
        rfl
      by_cases hq : s[i].toNat = k
      · have hb : ((s[i].toNat : Int) == (k : Int)) = true := by simp; omega
        have H : Hid (UInt8.ofNat k ∈ s.data.toList) := by
          show _ ∈ _
          have h1 : i < s.data.toList.length := by rw [← hsl.out]; exact hin
          have h2 : UInt8.ofNat k = s.data.toList.getD i 0 := by rw [← hbi, ← hq]; simp
          rw [h2]
          simp [List.getD, List.getElem?_eq_getElem h1]
        clear hq hbi
        go_wp2_with fail
        go_ret
        exact ⟨Told.t H.out, rfl⟩
      · have hb : ((s[i].toNat : Int) == (k : Int)) = false := by simp; omega
        have H : Hid (s.data.toList.getD i 0 ≠ UInt8.ofNat k) := by
          show _ ≠ _
          rw [← hbi]
          intro e
          apply hq
          rw [e]
          simp [UInt8.toNat_ofNat']; omega
        clear hq hbi
        go_wp2_with fail
        go_roundg (gk - 1)
        case measure => have := hm.out; have := hi.out; omega
        case rel =>
          have e1 := hm.out
          refine ⟨i + 1, by go_num, show _ = _ by omega, show _ ≤ _ by omega, ?_, rfl⟩
          intro t ht
          by_cases hti : t = i
          · rw [hti]; exact H.out
          · exact hn.out t (by omega)
    · have hlt : decide ((i : Int) < (s.size : Int)) = false := by simp; omega
      have H : Hid (¬ UInt8.ofNat k ∈ s.data.toList) := by
        intro e
        obtain ⟨t, ht, he⟩ := List.getElem_of_mem e
        have h1 := hsl.out
        have h2 := hi.out
        exact hn.out t (by omega) (by rw [← he]; simp [List.getD, List.getElem?_eq_getElem ht])
      go_wp2_with fail
      go_ret
      exact ⟨Told.f H.out, rfl⟩

theorem hasDoor (s : ByteArray) (k : Nat) (hk : k < 256) (hl : s.size ≤ 1000) (w : World) :
    Calls Tryd.prog 20 #[.string s, .int .u8 k] w fun e w' => Told e (UInt8.ofNat k ∈ s.data.toList) ∧ w' = w := by
  have h := Lib.hid (has_any s k hk hl)
  go_enter Tryd.func20, Tryd.ntmps20
  go_wp2_with fail
  refine (h.out _).mono ?_
  rintro e w2 ⟨⟨r, rfl, hr⟩, rfl⟩
  have Hr := Lib.hid hr
  clear hr
  go_wp2
  go_ret
  exact ⟨⟨r, rfl, Hr.out⟩, rfl⟩

set_option maxRecDepth 100000 in
theorem isShared_any (s : ByteArray) (hl : s.size ≤ 1000000) (w : World) :
    Calls Tryd.prog 21 #[.string s] w fun e w' => Told e ((122 : UInt8) ∈ s.data.toList) ∧ w' = w := by
  have h := Lib.hid (contains_any s 122 hl)
  go_enter Tryd.func21, Tryd.ntmps21
  go_wp2_with (go_at_call 45; go_in)
  refine (h.out _).mono ?_
  rintro e w2 ⟨⟨r, rfl, hr⟩, rfl⟩
  have Hr := Lib.hid hr
  clear hr
  go_wp2
  go_ret
  exact ⟨⟨r, rfl, Hr.out⟩, rfl⟩

set_option maxRecDepth 100000 in
theorem relabel_any (s : ByteArray) (hl : s.size ≤ 1000000) (w : World) :
    Calls Tryd.prog 22 #[.string s] w fun e w' => Told e ((122 : UInt8) ∈ s.data.toList ∨ (90 : UInt8) ∈ s.data.toList) ∧ w' = w := by
  have h := Lib.hid (contains_any s 122 hl)
  have h' := Lib.hid (contains_any s 90 hl)
  go_enter Tryd.func22, Tryd.ntmps22
  go_wp2_with (go_at_call 46; go_in)
  refine (h.out _).mono ?_
  rintro e w2 ⟨⟨r, rfl, hr⟩, rfl⟩
  have Hr := Lib.hid hr
  clear hr
  cases r
  · go_wp2_with fail
    refine (h'.out _).mono ?_
    rintro e w2 ⟨⟨r, rfl, hr'⟩, rfl⟩
    have Hr' := Lib.hid hr'
    clear hr'
    go_wp2
    go_ret
    exact ⟨⟨r, rfl, Hr'.out.trans ⟨Or.inr, fun e => e.resolve_left fun e => by have := Hr.out.2 e; cases this⟩⟩, rfl⟩
  · go_wp2
    go_ret
    exact ⟨Told.t (Or.inl (Hr.out.1 (by trivial))), rfl⟩

set_option maxRecDepth 100000 in
theorem valid_any (s : ByteArray) (hl : s.size ≤ 1000000) (w : World) :
    Calls Tryd.prog 23 #[.string s] w fun e w' => Told e (¬ ((122 : UInt8) ∈ s.data.toList ∧ (90 : UInt8) ∈ s.data.toList)) ∧ w' = w := by
  have h := Lib.hid (contains_any s 122 hl)
  have h' := Lib.hid (contains_any s 90 hl)
  go_enter Tryd.func23, Tryd.ntmps23
  go_wp2_with (go_at_call 47; go_in)
  refine (h.out _).mono ?_
  rintro e w2 ⟨⟨r, rfl, hr⟩, rfl⟩
  have Hr := Lib.hid hr
  clear hr
  cases r
  · go_wp2
    go_ret
    exact ⟨Told.t (fun e => by have := Hr.out.2 e.1; cases this), rfl⟩
  · go_wp2_with fail
    refine (h'.out _).mono ?_
    rintro e w2 ⟨⟨r, rfl, hr'⟩, rfl⟩
    have Hr' := Lib.hid hr'
    clear hr'
    cases r
    · go_wp2
      go_ret
      exact ⟨Told.t (fun e => by have := Hr'.out.2 e.2; cases this), rfl⟩
    · go_wp2
      go_ret
      exact ⟨Told.f (fun e => e ⟨Hr.out.1 (by trivial), Hr'.out.1 (by trivial)⟩), rfl⟩
end Go.Proofs.YtaloidnoeafgiaaDoor
