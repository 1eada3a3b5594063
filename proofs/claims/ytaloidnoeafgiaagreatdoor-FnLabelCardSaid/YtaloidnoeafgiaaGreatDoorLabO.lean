/- impl.Options: the options of a label; and that no panic came. -/
import Derived.Test.YtaloidnoeafgiaaGreatDoorLabG
import Derived.Test.YtaloidnoeafgiaaGreatDoorShelf
import Derived.Deep.RegionHeld3
namespace Go.Proofs.YtaloidnoeafgiaaGreatDoor
open Go.RowKit Go.Lib

set_option maxRecDepth 100000 in
theorem optGuard_idle (p q : Addr) (w : World) :
    CallsD Tryz.prog 36 #[.pointer (some p), .pointer (some q)] .returning w fun e u' w' => e = .returned (.tuple #[]) ∧ u' = .returning ∧ w' = w := by
  refine callsD_of_wpS Tryz.func36 rfl fun c₀ cs hu => ?_
  apply wpS_seq
  apply wpS_region
  simp [wpOpsS, go_sem, recoverD, hu, Tryz.ntmps36, Exit.thenS]
  refine wpS_cond (t := false) (by simp [Act.eval, Array.replicate]) ?_
  simp only [Bool.false_eq_true, if_false]
  refine wpS_of_wp (wp_skip ?_)
  cases c₀
  simp_all [bodyPostS, results, Tryz.results36]

theorem strsV_take (ss : List ByteArray) : (ss.take ss.length).map Value.string = strsV ss := by rw [List.take_length]; rfl

/-- slices.Clone at texts of the call's own -/
theorem clone_strs (B : Nat) (v : Value) (ss : List ByteArray) (w : World) (h : w.ownsRow B 9 1 v ss.length (strsV ss)) (hl : ss.length ≤ 1000) :
    Calls Tryz.prog 38 #[v] w fun e w' => ∃ (ao : Option Addr) (c : Nat), e = .returned (.slice ao ss.length c) ∧ w'.ownsRow w.heap.size 9 1 (.slice ao ss.length c) ss.length (strsV ss) ∧ Below w.heap.size w w' := by
  rcases h.2 with ⟨rfl, h0⟩ | ⟨g, cap, cur, rfl, hg, hh, hn, hc, hs, ht⟩
  · have e : ss = [] := List.eq_nil_of_length_eq_zero (by simpa using h0)
    subst e
    refine (Tryz.slices_Clone_string_nil _ _ w).mono ?_
    rintro e w' ⟨rfl, rfl⟩
    exact ⟨_, _, rfl, World.ownsRow_nil _ _ _ _, Below.refl _ _⟩
  · refine (Tryz.slices_Clone_string g 0 ss.length cap ss w (Nat.le_refl _) (by omega) ?_).mono ?_
    · intro j hj
      have := h.cellAt j (by omega)
      rw [Nat.zero_add]
      rw [this]
      simp [strsV, List.getD, List.getElem?_eq_getElem hj]
    · rintro e w' ⟨u, rfl, hown, _, hb⟩
      rw [strsV_take] at hown
      obtain ⟨ao, c, rfl⟩ := owns_shape' hown
      exact ⟨ao, c, rfl, hown, hb⟩

theorem labOpts_len (x : Lab) : 3 ≤ (labOpts x).length ∧ (labOpts x).length ≤ 4 := by
  unfold labOpts
  split <;> simp

set_option maxRecDepth 100000 in
set_option maxHeartbeats 4000000 in
theorem implOptions (s : ByteArray) (x : Lab) (hx : x.Ok) (hu : x.u.size ≠ 0) (hr : x.r.size ≠ 0) (ht : x.t.size ≠ 0) (hs : s.data.toList = x.text) (w : World) :
    Calls Tryz.prog 19 #[.string s] w fun e w' => ∃ v : Value, e = .returned (.tuple #[v, .bool true]) ∧ w'.ownsRow w.heap.size 9 1 v (labOpts x).length (strsV (labOpts x)) ∧ Below w.heap.size w w' := by
  have Hd := Lib.hid (fun W => dupSecOpt_any s x hx hu hr ht hs W)
  have hol := labOpts_len x
  have Hc := Lib.hid (fun B v W h => clone_strs B v (labOpts x) W h (by omega))
  have Hb0 : Hid (Below w.heap.size w ((w.alloc (.cells #[.slice none 0 0] 49)).alloc (.cells #[.bool false] 4))) := ((Below.refl _ _).alloc (Nat.le_refl _) _).alloc (by simp) _
  have hmf : ∀ (fn : Fn) (first cap : Array Value) (w : World), (Instr.makeFunc fn first cap).run Tryz.prog w = .ok (.func fn first cap) w := fun _ _ _ _ => rfl
  obtain ⟨n, hn⟩ : ∃ n, n = (labOpts x).length := ⟨_, rfl⟩
  rw [← hn] at Hd Hc ⊢
  clear hx hu hr ht hs hn hol
  go_enter_defers Tryz.func19, Tryz.ntmps19
  go_wp2_with (go_at_call 37; go_in)
  refine (Hd.out _).mono ?_
  rintro e w2 ⟨v, rfl, hown, hb2⟩
  obtain ⟨ao, cc, rfl⟩ := owns_shape' hown
  have q0 : w2.heap[w.heap.size]? = some (.cells #[.slice none 0 0] 49 (0, 0)) := by
    rw [hb2.block w.heap.size (by simp; omega), Below.heap_alloc _ _ _ (by simp)]; exact heap_alloc_new _ _
  have q1 : w2.heap[w.heap.size + 1]? = some (.cells #[.bool false] 4 (0, 0)) := by
    rw [hb2.block (w.heap.size + 1) (by simp)]
    have h := heap_alloc_new (w.alloc (.cells #[.slice none 0 0] 49)) (.cells #[.bool false] 4)
    simpa using h
  have z1 : w.heap.size + 1 < w2.heap.size := (Array.getElem?_eq_some_iff.1 q1).1
  have Hb2 : Hid (Below w.heap.size w w2) := Hb0.out.trans (hb2.mono (by simp; omega))
  have p0 := heap_setCell_same w2 w.heap.size 0 _ _ (.slice ao n cc) q0
  have p1 : (w2.setCell ⟨w.heap.size, 0, none⟩ (.slice ao n cc)).heap[w.heap.size + 1]? = some (.cells #[.bool false] 4 (0, 0)) := (Below.heap_setCell _ _ _ _ (by show w.heap.size + 1 ≠ w.heap.size; omega)).trans q1
  have hown1 : (w2.setCell ⟨w.heap.size, 0, none⟩ (.slice ao n cc)).ownsRow (w.heap.size + 1 + 1) 9 1 (.slice ao n cc) n (strsV (labOpts x)) := ownsRow_setCell_below (by simpa using hown) (by show w.heap.size < _; omega) _
  have c0 := row_cell (l := [.slice none 0 0]) q0 (j := 0) rfl
  have f0 := row_free (l := [.slice none 0 0]) q0 0
  have P0 : Hid ((w2.setCell ⟨w.heap.size, 0, none⟩ (.slice ao n cc)).heap[w.heap.size]? = some (.cells #[.slice ao n cc] 49 (0, 0))) := p0
  have P1 := Lib.hid p1
  have Hown := Lib.hid hown1
  have hc0 : (w2.setCell ⟨w.heap.size, 0, none⟩ (.slice ao n cc)).cell? ⟨w.heap.size, 0, none⟩ = some (.slice ao n cc) := row_cell (l := [.slice ao n cc]) P0.out (j := 0) rfl
  clear hb2 q0 q1 hown p0 p1 hown1
  have zs : w.heap.size + 1 < (w2.setCell ⟨w.heap.size, 0, none⟩ (.slice ao n cc)).heap.size := (Array.getElem?_eq_some_iff.1 P1.out).1
  have Hb3 : Hid (Below w.heap.size w (w2.setCell ⟨w.heap.size, 0, none⟩ (.slice ao n cc))) := Hb2.out.setCell (Nat.le_refl _) _
  obtain ⟨W1, hW1⟩ : ∃ W1, W1 = w2.setCell ⟨w.heap.size, 0, none⟩ (.slice ao n cc) := ⟨_, rfl⟩
  have keep0 : ∀ w3, Below W1.heap.size W1.drew w3 → w3.cell? ⟨w.heap.size, 0, none⟩ = some (.slice ao n cc) := fun w3 hb => row_cell (l := [.slice ao n cc]) ((hb.block w.heap.size (by rw [hW1]; omega)).trans (by rw [hW1]; exact P0.out)) (j := 0) rfl
  have keep1 : ∀ w3, Below W1.heap.size W1.drew w3 → w3.cell? ⟨w.heap.size + 1, 0, none⟩ = some (.bool false) := fun w3 hb => row_cell (l := [.bool false]) ((hb.block (w.heap.size + 1) (by rw [hW1]; omega)).trans (by rw [hW1]; exact P1.out)) (j := 0) rfl
  have keepf0 : ∀ w3, Below W1.heap.size W1.drew w3 → w3.frozen? ⟨w.heap.size, 0, none⟩ = false := fun w3 hb => row_free (l := [.slice ao n cc]) ((hb.block w.heap.size (by rw [hW1]; omega)).trans (by rw [hW1]; exact P0.out)) 0
  have keepf1 : ∀ w3, Below W1.heap.size W1.drew w3 → w3.frozen? ⟨w.heap.size + 1, 0, none⟩ = false := fun w3 hb => row_free (l := [.bool false]) ((hb.block (w.heap.size + 1) (by rw [hW1]; omega)).trans (by rw [hW1]; exact P1.out)) 0
  have Hk := Lib.hid (⟨keep0, keep1, keepf0, keepf1⟩ : _ ∧ _ ∧ _ ∧ _)
  have Zs : Hid (w.heap.size + 1 < W1.heap.size) := by rw [hW1]; exact zs
  clear keep0 keep1 keepf0 keepf1 zs
  go_wp2_with fail
  rw [← hW1] at Hown hc0 Hb3 ⊢
  clear P0 P1 c0 f0 hW1
  refine wp_region_noPanic ?_
  go_region_with ((go_at_call 38; refine (Hc.out _ _ _ (by exact Hown.out)).mono ?_; rintro e w3 ⟨ao3, cc3, rfl, hown3, hb3⟩; have c0 := Hk.out.1 _ hb3; have c1 := Hk.out.2.1 _ hb3; have f0 := Hk.out.2.2.1 _ hb3; have f1 := Hk.out.2.2.2 _ hb3))
  all_goals refine NoPanic.normal ?_
  all_goals go_wp2
  all_goals
    refine leaves_cons (f := 36) (args := #[.pointer (some ⟨w.heap.size, 0, none⟩), .pointer (some ⟨w.heap.size + 1, 0, none⟩)]) (by simp) (by simp [go_sem]) ?_
    refine (optGuard_idle ⟨w.heap.size, 0, none⟩ ⟨w.heap.size + 1, 0, none⟩ _).mono ?_
    rintro e u' w'' ⟨rfl, rfl, rfl⟩
    simp [Leaves, settle, results, Tryz.results19, go_sem, c0, c1, f0, f1]
  all_goals
    have zs : w.heap.size + 1 < W1.drew.heap.size := Zs.out
    exact ⟨own_lower2 (ownsRow_setCell_below (ownsRow_setCell_below hown3 (by show w.heap.size < _; omega) _) (by show w.heap.size + 1 < _; omega) _) (by omega), (((Hb3.out.drew).trans (hb3.mono (by omega))).setCell (Nat.le_refl _) _).setCell (Nat.le_succ _) _⟩
end Go.Proofs.YtaloidnoeafgiaaGreatDoor
