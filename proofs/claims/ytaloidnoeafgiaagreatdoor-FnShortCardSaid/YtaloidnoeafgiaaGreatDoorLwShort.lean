/- the law FnShort: its walk. -/
import Derived.Test.YtaloidnoeafgiaaGreatDoorParseS
namespace Go.Proofs.YtaloidnoeafgiaaGreatDoor
open Go.RowKit Go.Lib

theorem word_no_colon (s : ByteArray) (h : wordB s = true) : (58 : UInt8) ∉ s.data.toList ∧ s.size ≠ 0 ∧ s.size < 100 := by
  unfold wordB at h
  simp only [Bool.and_eq_true, decide_eq_true_eq] at h
  refine ⟨fun h1 => ?_, h.2.1, h.2.2⟩
  have := List.all_eq_true.1 h.1 _ h1
  exact absurd this (by decide)

theorem noLabel_one (s : ByteArray) (h : wordB s = true) : NoLabel s := by
  obtain ⟨h1, h2, h3⟩ := word_no_colon s h
  intro w
  exact newContext_short s [s.data.toList] (by simp) (by simp) (by simp [CL.joinC]) (by intro p hp; simp at hp; rw [hp]; exact h1) h2 (by omega) w

theorem noLabel_two (s a b : ByteArray) (ha : wordB a = true) (hb : wordB b = true) (hs : s.data.toList = a.data.toList ++ 58 :: b.data.toList) : NoLabel s := by
  obtain ⟨h1, h2, h3⟩ := word_no_colon a ha
  obtain ⟨g1, g2, g3⟩ := word_no_colon b hb
  have hl : s.size = a.size + 1 + b.size := by rw [Lib.size_eq, hs, Lib.size_eq a, Lib.size_eq b]; simp; omega
  intro w
  exact newContext_short s [a.data.toList, b.data.toList] (by simp) (by simp) (by rw [hs]; simp [CL.joinC]) (by intro p hp; simp at hp; rcases hp with rfl | rfl; exact h1; exact g1) (by omega) (by omega) w

set_option maxRecDepth 100000 in
set_option maxHeartbeats 4000000 in
theorem fnShort_walk (a b : ByteArray) (w : World) (_ha : a.size ≤ 140737488351232) (_hb : b.size ≤ 140737488351232) (hT : Tabs w) :
    Calls Tryz.prog 4 #[.string a, .string b] w fun e w' => e = .returned (.bool true) ∧ Below w.heap.size w w' := by
  have hw := Lib.hid (fun w hT => works_ok w hT)
  have Ht := Lib.hid hT
  by_cases h1 : a.size ≤ 2147483647
  · have k1 : decide ((a.size : Int) > 2147483647) = false := decide_eq_false (by omega)
    by_cases h2 : b.size ≤ 2147483647
    · have k2 : decide ((b.size : Int) > 2147483647) = false := decide_eq_false (by omega)
      have hwa := Lib.hid (word_any a (by omega))
      have hwb := Lib.hid (word_any b (by omega))
      have Hn1 := Lib.hid (fun h => noLabel_one a h)
      have Hn2 := Lib.hid (fun s ha hb => noLabel_two s a b ha hb)
      clear hT
      go_enter Tryz.func4, Tryz.ntmps4
      go_wp2_with fail
      refine (hwa.out _).mono ?_
      rintro e w2 ⟨rfl, rfl⟩
      cases ha : wordB a
      · clear ha
        go_wp2_with fail
        refine (hw.out _ Ht.out).mono ?_
        rintro e w3 ⟨rfl, hb3⟩
        go_wp2
        go_ret
        exact ⟨rfl, hb3⟩
      · have Ha := Lib.hid ha
        clear ha
        go_wp2_with fail
        refine (hwb.out _).mono ?_
        rintro e w2 ⟨rfl, rfl⟩
        cases hb : wordB b
        · clear hb
          go_wp2_with fail
          refine (hw.out _ Ht.out).mono ?_
          rintro e w3 ⟨rfl, hb3⟩
          go_wp2
          go_ret
          exact ⟨rfl, hb3⟩
        · have Hb := Lib.hid hb
          clear hb
          go_wp2_with fail
          refine (parse_short a (Hn1.out Ha.out) _).mono ?_
          rintro e w3 ⟨rfl, hb3⟩
          have HB := Lib.hid hb3
          clear hb3
          go_wp2_with fail
          refine (parse_short _ (Hn2.out _ Ha.out Hb.out (by simp [app_bytes])) _).mono ?_
          rintro e w4 ⟨rfl, hb4⟩
          have HB := Lib.hid (HB.out.trans (hb4.mono HB.out.size))
          clear hb4
          go_wp2_with fail
          refine (hw.out _ (Ht.out.below HB.out)).mono ?_
          rintro e w5 ⟨rfl, hb5⟩
          go_wp2
          go_ret
          exact ⟨rfl, HB.out.trans (hb5.mono HB.out.size)⟩
    · have k2 : decide ((b.size : Int) > 2147483647) = true := decide_eq_true (by omega)
      clear hT
      go_enter Tryz.func4, Tryz.ntmps4
      go_wp2
      go_ret
      exact ⟨rfl, Below.refl _ _⟩
  · have k1 : decide ((a.size : Int) > 2147483647) = true := decide_eq_true (by omega)
    clear hT
    go_enter Tryz.func4, Tryz.ntmps4
    go_wp2
    go_ret
    exact ⟨rfl, Below.refl _ _⟩
end Go.Proofs.YtaloidnoeafgiaaGreatDoor
