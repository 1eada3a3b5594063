/- spec.Label: Proper, Text. -/
import Derived.Test.YtaloidnoeafgiaaGreatDoorLab1
namespace Go.Proofs.YtaloidnoeafgiaaGreatDoor
open Go.RowKit Go.Lib

/-- a label's text -/
def labT (u r t l : ByteArray) : List UInt8 := u.data.toList ++ 58 :: (r.data.toList ++ 58 :: (t.data.toList ++ if l.size = 0 then [] else 58 :: l.data.toList))

/-- a label's value -/
abbrev labV (u r t l : ByteArray) : Value := .agg #[.string u, .string r, .string t, .string l]

/-- texts of a size that a machine holds -/
def Sized (u r t l : ByteArray) : Prop := u.size ≤ 281474976710 ∧ r.size ≤ 281474976710 ∧ t.size ≤ 281474976710 ∧ l.size ≤ 281474976710

theorem lvl_at (s : ByteArray) (i : Nat) (h : i < s.size) (x : Nat) (hx : x = s[i].toNat) : (decide (33 ≤ (s.data.toList.getD i 0).toNat) && decide ((s.data.toList.getD i 0).toNat ≤ 126)) = (decide (33 ≤ x) && decide (x ≤ 126)) := by
  rw [← byte_at s i h, hx]

set_option maxRecDepth 100000 in
set_option maxHeartbeats 4000000 in
theorem label_proper (u r t l : ByteArray) (hs : Sized u r t l) (w : World) :
    Calls Tryz.prog 17 #[labV u r t l] w fun e w' => e = .returned (.bool (labB u r t l)) ∧ Below w.heap.size w w' := by
  obtain ⟨h1, h2, h3, h4⟩ := hs
  have Hu := Lib.hid (word_any u (by omega))
  have Hr := Lib.hid (word_any r (by omega))
  have Ht := Lib.hid (word_any t (by omega))
  have hx := heap_alloc_new w (.cells #[.string u, .string r, .string t, .string l] 45)
  have c0 := row_cell (l := [.string u, .string r, .string t, .string l]) hx (j := 0) rfl
  have c1 := row_cell (l := [.string u, .string r, .string t, .string l]) hx (j := 1) rfl
  have c2 := row_cell (l := [.string u, .string r, .string t, .string l]) hx (j := 2) rfl
  have c3 := row_cell (l := [.string u, .string r, .string t, .string l]) hx (j := 3) rfl
  have HB : Hid (Below w.heap.size w (w.alloc (.cells #[.string u, .string r, .string t, .string l] 45))) := (Below.refl _ _).alloc (Nat.le_refl _) _
  clear hx
  go_enter Tryz.func17, Tryz.ntmps17
  go_wp2_with fail
  go_loopg [8] (l.size + 1) (fun m iv wr => ∃ i : Nat, iv = .int .i64 i ∧ Hid (m + i = l.size + 1) ∧ Hid (i ≤ l.size) ∧ Hid (∀ j, j < i → (decide (33 ≤ (l.data.toList.getD j 0).toNat) && decide ((l.data.toList.getD j 0).toNat ≤ 126)) = true) ∧ wr = w.alloc (.cells #[.string u, .string r, .string t, .string l] 45))
  case atStart => exact ⟨0, rfl, rfl, Nat.zero_le _, fun t ht => absurd ht (Nat.not_lt_zero t), rfl⟩
  case round =>
    obtain ⟨i, rfl, hm, hi, hn, rfl⟩ := hrel
    by_cases hin : i < l.size
    · have hlt : decide ((i : Int) < (l.size : Int)) = true := by simp; omega
      have hbi := Lib.hid (lvl_at l i hin)
      by_cases hq : 33 ≤ l[i].toNat ∧ l[i].toNat ≤ 126
      · obtain ⟨q1, q2⟩ := hq
        have H : Hid ((decide (33 ≤ (l.data.toList.getD i 0).toNat) && decide ((l.data.toList.getD i 0).toNat ≤ 126)) = true) := by
          show _ = _
          rw [hbi.out _ rfl]; simp [q1, q2]
        have b1 : decide ((l[i].toNat : Int) ≤ 32) = false := by simp; omega
        have b2 : decide ((l[i].toNat : Int) > 126) = false := by simp; omega
        go_wp2_with fail
        go_roundg (gk - 1)
        case measure => have := hm.out; have := hi.out; omega
        case rel =>
          have e1 := hm.out
          refine ⟨i + 1, by go_num, show _ = _ by omega, show _ ≤ _ by omega, ?_, rfl⟩
          intro j hj
          by_cases hti : j = i
          · rw [hti]; exact H.out
          · exact hn.out j (by omega)
      · have H : Hid (labB u r t l = false) := by
          show _ = _
          unfold labB lvlB
          rw [all_not l _ i hin (by rw [hbi.out _ rfl]; simp; omega)]; rfl
        go_wp2_with fail
        all_goals
          go_ret
          exact ⟨show Ending.returned (.bool false) = _ by rw [H.out], HB.out⟩
    · have hlt : decide ((i : Int) < (l.size : Int)) = false := by simp; omega
      have H : Hid (labB u r t l = (wordB u && (wordB r && (wordB t && decide (l.size < 300))))) := by
        show _ = _
        unfold labB lvlB
        rw [all_of l _ (fun t ht => hn.out t (by have := hi.out; omega))]; rfl
      have Hd : Hid (decide ((l.size : Int) < 300) = decide (l.size < 300)) := by show _ = _; congr 1; apply propext; omega
      go_wp2_with fail
      refine (Hu.out _).mono ?_
      rintro e w2 ⟨rfl, rfl⟩
      cases hu : wordB u
      · have H : Hid (labB u r t l = false) := by show _ = _; rw [H.out, hu]; rfl
        clear hu
        go_wp2_with fail
        go_ret
        exact ⟨show Ending.returned (.bool false) = _ by rw [H.out], HB.out⟩
      · have H : Hid (labB u r t l = (wordB r && (wordB t && decide (l.size < 300)))) := by show _ = _; rw [H.out, hu]; rfl
        clear hu
        go_wp2_with fail
        refine (Hr.out _).mono ?_
        rintro e w2 ⟨rfl, rfl⟩
        cases hu : wordB r
        · have H : Hid (labB u r t l = false) := by show _ = _; rw [H.out, hu]; rfl
          clear hu
          go_wp2_with fail
          go_ret
          exact ⟨show Ending.returned (.bool false) = _ by rw [H.out], HB.out⟩
        · have H : Hid (labB u r t l = (wordB t && decide (l.size < 300))) := by show _ = _; rw [H.out, hu]; rfl
          clear hu
          go_wp2_with fail
          refine (Ht.out _).mono ?_
          rintro e w2 ⟨rfl, rfl⟩
          cases hu : wordB t
          · have H : Hid (labB u r t l = false) := by show _ = _; rw [H.out, hu]; rfl
            clear hu
            go_wp2_with fail
            go_ret
            exact ⟨show Ending.returned (.bool false) = _ by rw [H.out], HB.out⟩
          · have H : Hid (labB u r t l = decide (l.size < 300)) := by show _ = _; rw [H.out, hu]; rfl
            clear hu
            go_wp2_with fail
            go_ret
            exact ⟨show Ending.returned (.bool (decide ((l.size : Int) < 300))) = _ by rw [H.out, ← Hd.out], HB.out⟩

set_option maxRecDepth 100000 in
set_option maxHeartbeats 2000000 in
theorem label_text (u r t l : ByteArray) (hs : Sized u r t l) (w : World) :
    Calls Tryz.prog 18 #[labV u r t l] w fun e w' => ∃ s : ByteArray, e = .returned (.string s) ∧ Hid (s.data.toList = labT u r t l) ∧ Below w.heap.size w w' := by
  obtain ⟨h1, h2, h3, h4⟩ := hs
  have hx := heap_alloc_new w (.cells #[.string u, .string r, .string t, .string l] 45)
  have c0 := row_cell (l := [.string u, .string r, .string t, .string l]) hx (j := 0) rfl
  have c1 := row_cell (l := [.string u, .string r, .string t, .string l]) hx (j := 1) rfl
  have c2 := row_cell (l := [.string u, .string r, .string t, .string l]) hx (j := 2) rfl
  have c3 := row_cell (l := [.string u, .string r, .string t, .string l]) hx (j := 3) rfl
  have HB : Hid (Below w.heap.size w (w.alloc (.cells #[.string u, .string r, .string t, .string l] 45))) := (Below.refl _ _).alloc (Nat.le_refl _) _
  clear hx
  by_cases h0 : l.size = 0
  · have hb := (str_nil l (List.eq_nil_of_length_eq_zero (by rw [← Lib.size_eq]; exact h0))).1
    go_enter Tryz.func18, Tryz.ntmps18
    go_wp2_with fail
    go_ret
    refine ⟨_, rfl, ?_, HB.out⟩
    show _ = _
    simp [labT, h0, app_bytes]
  · have hb := (str_some l (fun e => h0 (by rw [Lib.size_eq, e]; rfl))).1
    go_enter Tryz.func18, Tryz.ntmps18
    go_wp2_with fail
    go_ret
    refine ⟨_, rfl, ?_, HB.out⟩
    show _ = _
    simp [labT, h0, app_bytes]
end Go.Proofs.YtaloidnoeafgiaaGreatDoor
