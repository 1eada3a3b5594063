/- spec.Same, spec.Span.Text. -/
import Derived.Test.YtaloidnoeafgiaaGreatDoorSpec4
namespace Go.Proofs.YtaloidnoeafgiaaGreatDoor
open Go.RowKit Go.Lib

theorem list_same (ns ns' : List Nat) (hl : ns.length = ns'.length) (h : ∀ t, t < ns.length → ns.getD t 0 = ns'.getD t 0) : ns = ns' := by
  apply List.ext_getElem hl
  intro i h1 h2
  have := h i h1
  simpa [List.getD, List.getElem?_eq_getElem h1, List.getElem?_eq_getElem h2] using this

set_option maxRecDepth 100000 in
set_option maxHeartbeats 2000000 in
theorem same_loop (s : Nat) (ao : Option Addr) (ns : List Nat) (c : Nat) (ao' : Option Addr) (ns' : List Nat) (c' : Nat) (w : World) (h : NatsAt w ao ns) (h' : NatsAt w ao' ns') (hl : ns.length ≤ 500) (he : ns.length = ns'.length) :
    Calls Tryz.prog 28 #[.agg #[.int .i64 s, .slice ao ns.length c], .agg #[.int .i64 s, .slice ao' ns'.length c']] w fun e w' => Told e (ns = ns') ∧ Below w.heap.size w w' := by
  have H0 : Hid (Below w.heap.size w ((w.alloc (.cells #[.int .i64 s, .slice ao ns.length c] 24)).alloc (.cells #[.int .i64 s, .slice ao' ns'.length c'] 24))) := ((Below.refl _ _).alloc (Nat.le_refl _) _).alloc (by simp) _
  have Hn := Lib.hid h
  have Hn' := Lib.hid h'
  have hsb : ((s : Int) != (s : Int)) = false := by simp
  obtain ⟨L, hL⟩ : ∃ L, L = ns.length := ⟨_, rfl⟩
  have HL := Lib.hid hL
  have HL' : Hid (L = ns'.length) := hL.trans he
  rw [← HL.out, ← HL'.out]
  rw [← HL.out, ← HL'.out] at H0
  rw [← hL] at hl
  have hlb : ((L : Int) != (L : Int)) = false := by simp
  have R0 : Hid (((w.alloc (.cells #[.int .i64 s, .slice ao L c] 24)).alloc (.cells #[.int .i64 s, .slice ao' L c'] 24)).heap[w.heap.size]? = some (.cells #[.int .i64 s, .slice ao L c] 24 (0, 0))) := by
    show _ = _
    rw [Below.heap_alloc _ _ _ (by simp)]; exact heap_alloc_new _ _
  have R1 : Hid (((w.alloc (.cells #[.int .i64 s, .slice ao L c] 24)).alloc (.cells #[.int .i64 s, .slice ao' L c'] 24)).heap[w.heap.size + 1]? = some (.cells #[.int .i64 s, .slice ao' L c'] 24 (0, 0))) := by
    have h := heap_alloc_new (w.alloc (.cells #[.int .i64 s, .slice ao L c] 24)) (.cells #[.int .i64 s, .slice ao' L c'] 24)
    show _ = _
    simpa using h
  clear h h' he hL
  go_enter Tryz.func28, Tryz.ntmps28
  go_wp2_with fail
  go_loopg [23] (L + 1) (fun m iv wr => ∃ k : Nat, iv = .int .i64 k ∧ Hid (m + k = L + 1) ∧ Hid (k ≤ L) ∧ Hid (∀ t, t < k → ns.getD t 0 = ns'.getD t 0) ∧ Hid (Below ((w.alloc (.cells #[.int .i64 s, .slice ao L c] 24)).alloc (.cells #[.int .i64 s, .slice ao' L c'] 24)).heap.size ((w.alloc (.cells #[.int .i64 s, .slice ao L c] 24)).alloc (.cells #[.int .i64 s, .slice ao' L c'] 24)) wr))
  case atStart => exact ⟨0, rfl, rfl, Nat.zero_le _, fun t ht => absurd ht (Nat.not_lt_zero t), Below.refl _ _⟩
  case round =>
    obtain ⟨k, rfl, hm, hk, hs, hbw⟩ := hrel
    have r0 : wr.heap[w.heap.size]? = some (.cells #[.int .i64 s, .slice ao L c] 24 (0, 0)) := by
      rw [hbw.out.block w.heap.size (Array.getElem?_eq_some_iff.1 R0.out).1]; exact R0.out
    have r1 : wr.heap[w.heap.size + 1]? = some (.cells #[.int .i64 s, .slice ao' L c'] 24 (0, 0)) := by
      rw [hbw.out.block (w.heap.size + 1) (Array.getElem?_eq_some_iff.1 R1.out).1]; exact R1.out
    have b0 := row_cell (l := [.int .i64 s, .slice ao L c]) r0 (j := 1) rfl
    have b1 := row_cell (l := [.int .i64 s, .slice ao' L c']) r1 (j := 1) rfl
    have Hbw : Hid (Below w.heap.size w wr) := H0.out.trans (hbw.out.mono H0.out.size)
    clear r0 r1
    by_cases hkn : k < L
    · have hlt : decide ((k : Int) < (L : Int)) = true := by simp; omega
      have hp1 : (0 : Int) ≤ (k : Int) := by omega
      have hp2 : (k : Int) < (L : Int) := by omega
      obtain ⟨x, rfl, hx, hc⟩ := (Hn.out.below Hbw.out) k (by have := HL.out; omega)
      obtain ⟨x', rfl, hx', hc'⟩ := (Hn'.out.below Hbw.out) k (by have := HL'.out; omega)
      obtain ⟨a, ha⟩ : ∃ a, a = ns.getD k 0 := ⟨_, rfl⟩
      obtain ⟨a', ha'⟩ : ∃ a', a' = ns'.getD k 0 := ⟨_, rfl⟩
      rw [← ha] at hc
      rw [← ha'] at hc'
      have Ha := Lib.hid ha
      have Ha' := Lib.hid ha'
      clear ha ha'
      by_cases hq : a = a'
      · subst hq
        have hab : ((a : Int) != (a : Int)) = false := by simp
        go_wp2
        go_quiet (fail)
        go_wp2
        go_roundg (gk - 1)
        case measure => have := hm.out; have := hk.out; omega
        case rel =>
          have e1 := hm.out
          refine ⟨k + 1, by go_num, show _ = _ by omega, show _ ≤ _ by omega, ?_, below_drewN hbw.out _⟩
          intro t ht
          by_cases htk : t = k
          · rw [htk, ← Ha.out, ← Ha'.out]
          · exact hs.out t (by omega)
      · have hab : ((a : Int) != (a' : Int)) = true := by simp; omega
        have Hq := Lib.hid hq
        clear hq
        go_wp2
        go_quiet (fail)
        go_wp2
        go_ret
        refine ⟨Told.f (fun e => Hq.out ?_), below_drewN Hbw.out _⟩
        rw [Ha.out, Ha'.out, e]
    · have hlt : decide ((k : Int) < (L : Int)) = false := by simp; omega
      have hke : Hid (k = L) := by have := hk.out; show k = L; omega
      go_wp2_with fail
      go_ret
      refine ⟨Told.t (list_same ns ns' (HL.out.symm.trans HL'.out) fun t ht => hs.out t ?_), Hbw.out⟩
      have := hke.out; have := HL.out; omega

set_option maxRecDepth 100000 in
set_option maxHeartbeats 2000000 in
theorem same_any (s s' : Nat) (ao : Option Addr) (ns : List Nat) (c : Nat) (ao' : Option Addr) (ns' : List Nat) (c' : Nat) (w : World) (h : NatsAt w ao ns) (h' : NatsAt w ao' ns') (hl : ns.length ≤ 500) :
    Calls Tryz.prog 28 #[.agg #[.int .i64 s, .slice ao ns.length c], .agg #[.int .i64 s', .slice ao' ns'.length c']] w fun e w' => Told e (s = s' ∧ ns = ns') ∧ Below w.heap.size w w' := by
  have H0 : Hid (Below w.heap.size w ((w.alloc (.cells #[.int .i64 s, .slice ao ns.length c] 24)).alloc (.cells #[.int .i64 s', .slice ao' ns'.length c'] 24))) := ((Below.refl _ _).alloc (Nat.le_refl _) _).alloc (by simp) _
  by_cases hs : s = s'
  · subst hs
    by_cases he : ns.length = ns'.length
    · refine (same_loop s ao ns c ao' ns' c' w h h' hl he).mono ?_
      rintro e w' ⟨⟨r, rfl, hr⟩, hb⟩
      exact ⟨⟨r, rfl, hr.trans ⟨fun e => ⟨rfl, e⟩, fun e => e.2⟩⟩, hb⟩
    · have hsb : ((s : Int) != (s : Int)) = false := by simp
      have hlb : ((ns.length : Int) != (ns'.length : Int)) = true := by simp; omega
      have He := Lib.hid he
      clear h h' he
      go_enter Tryz.func28, Tryz.ntmps28
      go_wp2_with fail
      go_ret
      exact ⟨Told.f (fun e => He.out (by rw [e.2])), H0.out⟩
  · have hsb : ((s : Int) != (s' : Int)) = true := by simp; omega
    have Hs := Lib.hid hs
    clear h h' hs
    go_enter Tryz.func28, Tryz.ntmps28
    go_wp2_with fail
    go_ret
    exact ⟨Told.f (fun e => Hs.out e.1), H0.out⟩
end Go.Proofs.YtaloidnoeafgiaaGreatDoor
