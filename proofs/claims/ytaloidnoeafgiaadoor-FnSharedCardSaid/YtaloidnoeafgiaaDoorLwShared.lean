/- the law FnShared: its walk. -/
import Derived.Test.YtaloidnoeafgiaaDoorShared1
namespace Go.Proofs.YtaloidnoeafgiaaDoor
open Go.RowKit Go.Lib

theorem bool_nand : ∀ v r g : Bool, (v = true ↔ ¬ (r = true ∧ g = true)) → v = !(r && g) := by decide

set_option maxRecDepth 100000 in
set_option maxHeartbeats 2000000 in
theorem fnShared_walk (s : ByteArray) (w : World) (_hs : s.size ≤ 140737488351232) (hT : Tabs w) :
    Calls Tryd.prog 5 #[.string s] w fun e w' => e = .returned (.bool true) ∧ Below w.heap.size w w' := by
  by_cases h1 : s.size ≤ 2147483647
  · have k1 : decide ((s.size : Int) > 2147483647) = false := by simp; omega
    by_cases h2 : s.size ≤ 1000
    · have k2 : decide ((s.size : Int) > 1000) = false := by simp; omega
      have hz := Lib.hid (hasDoor s 122 (by decide) h2)
      have hZ := Lib.hid (hasDoor s 90 (by decide) h2)
      have hsh := Lib.hid (isShared_any s (by omega))
      have hre := Lib.hid (relabel_any s (by omega))
      have hva := Lib.hid (valid_any s (by omega))
      have hw := Lib.hid (fun w hT => works_ok w hT)
      have Ht := Lib.hid hT
      clear hT
      go_enter Tryd.func5, Tryd.ntmps5
      go_wp2_with fail
      refine (hz.out _).mono ?_
      rintro e w2 ⟨⟨z, rfl, hz1⟩, rfl⟩
      have Z1 : Hid (z = true ↔ (122 : UInt8) ∈ s.data.toList) := hz1
      clear hz1
      go_wp2_with fail
      refine (hZ.out _).mono ?_
      rintro e w2 ⟨⟨g, rfl, hg1⟩, rfl⟩
      have G1 : Hid (g = true ↔ (90 : UInt8) ∈ s.data.toList) := hg1
      clear hg1
      go_wp2_with fail
      refine (hsh.out _).mono ?_
      rintro e w2 ⟨⟨r, rfl, hr1⟩, rfl⟩
      obtain rfl : r = z := by rw [Bool.eq_iff_iff, hr1, Z1.out]
      clear hr1
      go_wp2_with fail
      refine (hre.out _).mono ?_
      rintro e w2 ⟨⟨q, rfl, hq1⟩, rfl⟩
      obtain rfl : q = (r || g) := by rw [Bool.eq_iff_iff, hq1, ← Z1.out, ← G1.out]; simp
      clear hq1
      have Va : Hid (∀ v : Bool, (v = true ↔ ¬ ((122 : UInt8) ∈ s.data.toList ∧ (90 : UInt8) ∈ s.data.toList)) → v = !(r && g)) := by
        intro v hv
        rw [← Z1.out, ← G1.out] at hv
        exact bool_nand v r g hv
      clear Z1 G1
      cases r <;> cases g
      all_goals go_wp2_with fail
      all_goals
        refine (hva.out _).mono ?_
        rintro e w2 ⟨⟨v, rfl, hv1⟩, rfl⟩
        obtain rfl := Va.out v hv1
        clear hv1 Va
      all_goals go_wp2_with fail
      all_goals
        refine (hw.out _ Ht.out).mono ?_
        rintro e w3 ⟨rfl, hb⟩
      all_goals go_wp2
      all_goals go_ret
      all_goals exact ⟨rfl, hb⟩
    · have k2 : decide ((s.size : Int) > 1000) = true := by simp; omega
      have hw := Lib.hid (works_ok w hT)
      clear hT
      go_enter Tryd.func5, Tryd.ntmps5
      go_wp2_with fail
      refine hw.out.mono ?_
      rintro e w3 ⟨rfl, hb⟩
      go_wp2
      go_ret
      exact ⟨rfl, hb⟩
  · have k1 : decide ((s.size : Int) > 2147483647) = true := by simp; omega
    clear hT
    go_enter Tryd.func5, Tryd.ntmps5
    go_wp2
    go_ret
    exact ⟨rfl, Below.refl _ _⟩
end Go.Proofs.YtaloidnoeafgiaaDoor
