/- the law FnLevels on every range: its walk. -/
import Derived.Test.YtaloidnoeafgiaaDoorLwLevels
namespace Go.Proofs.YtaloidnoeafgiaaDoor
open Go.RowKit Go.Lib

set_option maxRecDepth 100000 in
set_option maxHeartbeats 2000000 in
theorem fnLevels_walk (s s' : Int) (ao : Option Addr) (l : List Int) (c : Nat) (ao' : Option Addr) (l' : List Int) (c' : Nat) (w : World) (h : IntsAt w ao l) (h' : IntsAt w ao' l') (hT : Tabs w) :
    Calls Tryd.prog 6 #[.agg #[.int .i64 s, .slice ao l.length c, .int .i64 s', .slice ao' l'.length c']] w fun e w' => e = .returned (.bool true) ∧ Below w.heap.size w w' := by
  by_cases hp : ProperL s l ∧ ProperL s' l'
  · obtain ⟨⟨h1, h2, h3, h4⟩, h1', h2', h3', h4'⟩ := id hp
    obtain ⟨ns, rfl, hg, h9, _⟩ := grows_nats l (-1) (by omega) h4
    obtain ⟨ns', rfl, hg', h9', _⟩ := grows_nats l' (-1) (by omega) h4'
    obtain ⟨k, rfl⟩ : ∃ k : Nat, s = k := ⟨s.toNat, by omega⟩
    obtain ⟨k', rfl⟩ : ∃ k : Nat, s' = k := ⟨s'.toNat, by omega⟩
    have el : (ns.map Int.ofNat).length = ns.length := by simp
    have el' : (ns'.map Int.ofNat).length = ns'.length := by simp
    rw [el, el']
    exact fnLevels_in k k' (by omega) (by omega) ao ns c ao' ns' c' w h.nats h'.nats h h' hp hg hg' h9 h9' (by omega) (by omega) hT
  have H0 : Hid (Below w.heap.size w (w.alloc (.cells #[.int .i64 s, .slice ao l.length c, .int .i64 s', .slice ao' l'.length c'] 26))) := (Below.refl _ _).alloc (Nat.le_refl _) _
  have Hp := Lib.hid hp
  have Hf := Lib.hid (fits1 s ao l.length c s' ao' l'.length c')
  have Hsp := Lib.hid (fun W hb => span_any s ao l c s' ao' l' c' W (h.below hb) (h'.below hb))
  have Ht := Lib.hid hT
  clear h h' hp hT
  by_cases hf : l.length ≤ 2147483647 ∧ l'.length ≤ 2147483647
  · have hfd : decide (l.length ≤ 2147483647 ∧ l'.length ≤ 2147483647) = true := by simp; omega
    rw [hfd] at Hf
    clear hf hfd
    go_enter Tryd.func6, Tryd.ntmps6
    go_wp2_with fail
    refine (Hf.out _).mono ?_
    rintro e w2 ⟨rfl, hb2⟩
    have hbx : w2.heap[w.heap.size]? = some (.cells #[.int .i64 s, .slice ao l.length c, .int .i64 s', .slice ao' l'.length c'] 26 (0, 0)) := by
      rw [hb2.block w.heap.size (by simp)]; exact heap_alloc_new _ _
    have c0 := row_cell (l := [.int .i64 s, .slice ao l.length c, .int .i64 s', .slice ao' l'.length c']) hbx (j := 0) rfl
    have c1 := row_cell (l := [.int .i64 s, .slice ao l.length c, .int .i64 s', .slice ao' l'.length c']) hbx (j := 1) rfl
    have c2 := row_cell (l := [.int .i64 s, .slice ao l.length c, .int .i64 s', .slice ao' l'.length c']) hbx (j := 2) rfl
    have c3 := row_cell (l := [.int .i64 s, .slice ao l.length c, .int .i64 s', .slice ao' l'.length c']) hbx (j := 3) rfl
    have HX : Hid (Below w.heap.size w w2) := H0.out.trans (hb2.mono (by simp))
    clear hb2 hbx H0 Hf
    go_wp2_with fail
    refine (Hsp.out _ HX.out).mono ?_
    rintro e w3 ⟨⟨q, rfl, hq⟩, hb3⟩
    obtain rfl : q = false := by
      cases q with
      | false => rfl
      | true => exact absurd (hq.1 rfl) Hp.out
    have HY : Hid (Below w.heap.size w w3) := HX.out.trans (hb3.mono HX.out.size)
    clear hq hb3
    go_wp2_with fail
    refine (works_ok _ (Ht.out.below HY.out)).mono ?_
    rintro e w4 ⟨rfl, hb4⟩
    go_wp2
    go_ret
    exact ⟨rfl, HY.out.trans (hb4.mono HY.out.size)⟩
  · have hfd : decide (l.length ≤ 2147483647 ∧ l'.length ≤ 2147483647) = false := by simp; omega
    rw [hfd] at Hf
    clear hf hfd
    go_enter Tryd.func6, Tryd.ntmps6
    go_wp2_with fail
    refine (Hf.out _).mono ?_
    rintro e w2 ⟨rfl, hb2⟩
    go_wp2
    go_ret
    exact ⟨rfl, H0.out.trans (hb2.mono (by simp))⟩
end Go.Proofs.YtaloidnoeafgiaaDoor
