/- laws.level: equal levels are equal. -/
import Derived.Test.YtaloidnoeafgiaaGreatDoorImplLv
namespace Go.Proofs.YtaloidnoeafgiaaGreatDoor
open Go.RowKit Go.Lib

set_option maxRecDepth 100000 in
set_option maxHeartbeats 2000000 in
theorem level_same (s : Nat) (ao : Option Addr) (ns : List Nat) (c : Nat) (ao' : Option Addr) (c' : Nat) (w : World) (h : NatsAt w ao ns) (h' : NatsAt w ao' ns) (hl : ns.length ≤ 500) :
    Calls Tryz.prog 13 #[.agg #[.int .i64 s, .slice ao ns.length c], .agg #[.int .i64 s, .slice ao' ns.length c']] w fun e w' => e = .returned (.bool true) ∧ Below w.heap.size w w' := by
  have H0 : Hid (Below w.heap.size w ((w.alloc (.cells #[.int .i64 s, .slice ao ns.length c] 34)).alloc (.cells #[.int .i64 s, .slice ao' ns.length c'] 24))) := ((Below.refl _ _).alloc (Nat.le_refl _) _).alloc (by simp) _
  have Hn := Lib.hid h
  have Hn' := Lib.hid h'
  have hsb : ((s : Int) != (s : Int)) = false := by simp
  obtain ⟨L, hL⟩ : ∃ L, L = ns.length := ⟨_, rfl⟩
  have HL := Lib.hid hL
  rw [← HL.out]
  rw [← HL.out] at H0
  rw [← hL] at hl
  have hlb : ((L : Int) != (L : Int)) = false := by simp
  have R0 : Hid (((w.alloc (.cells #[.int .i64 s, .slice ao L c] 34)).alloc (.cells #[.int .i64 s, .slice ao' L c'] 24)).heap[w.heap.size]? = some (.cells #[.int .i64 s, .slice ao L c] 34 (0, 0))) := by
    show _ = _
    rw [Below.heap_alloc _ _ _ (by simp)]; exact heap_alloc_new _ _
  have R1 : Hid (((w.alloc (.cells #[.int .i64 s, .slice ao L c] 34)).alloc (.cells #[.int .i64 s, .slice ao' L c'] 24)).heap[w.heap.size + 1]? = some (.cells #[.int .i64 s, .slice ao' L c'] 24 (0, 0))) := by
    have h := heap_alloc_new (w.alloc (.cells #[.int .i64 s, .slice ao L c] 34)) (.cells #[.int .i64 s, .slice ao' L c'] 24)
    show _ = _
    simpa using h
  clear h h' hL
  go_enter Tryz.func13, Tryz.ntmps13
  go_wp2_with fail
  go_loopg [24] (L + 1) (fun m iv wr => ∃ k : Nat, iv = .int .i64 k ∧ Hid (m + k = L + 1) ∧ Hid (k ≤ L) ∧ Hid (Below ((w.alloc (.cells #[.int .i64 s, .slice ao L c] 34)).alloc (.cells #[.int .i64 s, .slice ao' L c'] 24)).heap.size ((w.alloc (.cells #[.int .i64 s, .slice ao L c] 34)).alloc (.cells #[.int .i64 s, .slice ao' L c'] 24)) wr))
  case atStart => exact ⟨0, rfl, rfl, Nat.zero_le _, Below.refl _ _⟩
  case round =>
    obtain ⟨k, rfl, hm, hk, hbw⟩ := hrel
    have r0 : wr.heap[w.heap.size]? = some (.cells #[.int .i64 s, .slice ao L c] 34 (0, 0)) := by
      rw [hbw.out.block w.heap.size (Array.getElem?_eq_some_iff.1 R0.out).1]; exact R0.out
    have b0 := row_cell (l := [.int .i64 s, .slice ao L c]) r0 (j := 1) rfl
    have Hbw : Hid (Below w.heap.size w wr) := H0.out.trans (hbw.out.mono H0.out.size)
    clear r0
    by_cases hkn : k < L
    · have hlt : decide ((k : Int) < (L : Int)) = true := by simp; omega
      have hp1 : (0 : Int) ≤ (k : Int) := by omega
      have hp2 : (k : Int) < (L : Int) := by omega
      obtain ⟨x, rfl, hx, hc⟩ := (Hn.out.below Hbw.out) k (by have := HL.out; omega)
      obtain ⟨x', rfl, hx', hc'⟩ := (Hn'.out.below Hbw.out) k (by have := HL.out; omega)
      obtain ⟨a, ha⟩ : ∃ a, a = ns.getD k 0 := ⟨_, rfl⟩
      rw [← ha] at hc hc'
      have hab : ((a : Int) != (a : Int)) = false := by simp
      clear ha
      go_wp2_with fail
      go_roundg (gk - 1)
      case measure => have := hm.out; have := hk.out; omega
      case rel =>
        have e1 := hm.out
        exact ⟨k + 1, by go_num, show _ = _ by omega, show _ ≤ _ by omega, hbw⟩
    · have hlt : decide ((k : Int) < (L : Int)) = false := by simp; omega
      go_wp2_with fail
      go_ret
      exact ⟨rfl, Hbw.out⟩
end Go.Proofs.YtaloidnoeafgiaaGreatDoor
