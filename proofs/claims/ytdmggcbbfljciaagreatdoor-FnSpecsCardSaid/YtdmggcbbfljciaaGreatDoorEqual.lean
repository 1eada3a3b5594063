/- Int.Cmp and level.equal. -/
import Derived.Test.YtdmggcbbfljciaaGreatDoorCmp
import Derived.LaidEqlPtr
namespace Go.Proofs.YtdmggcbbfljciaaGreatDoor
open Go.RowKit

theorem words_inj {a b : List Nat} (h : words a = words b) : a = b := by
  induction a generalizing b with
  | nil => cases b with
    | nil => rfl
    | cons y l => simp [words] at h
  | cons x k ih => cases b with
    | nil => simp [words] at h
    | cons y l =>
      simp only [words, List.map_cons, List.cons.injEq, Value.int.injEq, true_and] at h
      have h1 : x = y := by omega
      rw [h1, ih h.2]

theorem BigOwn.unique {w : World} {b B B' : Nat} {ws ws' : List Nat} (h : BigOwn w b B ws) (h' : BigOwn w b B' ws') : ws = ws' := by
  obtain ⟨_, v, h1, h2, _⟩ := h
  obtain ⟨_, v', h1', h2', _⟩ := h'
  rw [h1] at h1'
  simp only [Option.some.injEq, Obj.cells.injEq, and_true, Array.mk.injEq, List.cons.injEq, true_and] at h1'
  subst h1'
  rcases h2.2 with ⟨rfl, e0⟩ | ⟨g, cap, cur, rfl, _, hh, _, _, _, ht⟩
  · rcases h2'.2 with ⟨_, e1⟩ | ⟨g', cap', cur', he, _⟩
    · rw [List.eq_nil_of_length_eq_zero e0, List.eq_nil_of_length_eq_zero e1]
    · simp at he
  · rcases h2'.2 with ⟨he, _⟩ | ⟨g', cap', cur', he, _, hh', _, _, _, ht'⟩
    · simp at he
    · simp only [Value.slice.injEq, Option.some.injEq, Addr.mk.injEq, and_true] at he
      obtain ⟨rfl, hl, _⟩ := he
      rw [hh] at hh'
      simp only [Option.some.injEq, Obj.cells.injEq, and_true] at hh'
      subst hh'
      apply words_inj
      rw [← ht, ← ht', hl]

theorem sizeInt : (Tryz.prog.info? 177).map (·.size) = some 2 := by kernel_rfl
theorem sizeLevel : (Tryz.prog.info? 143).map (·.size) = some 2 := by kernel_rfl
theorem info_size {T n : Nat} (h : (Tryz.prog.info? T).map (·.size) = some n) : ∃ j, Tryz.prog.info? T = some j ∧ j.size = n := by
  cases hj : Tryz.prog.info? T with
  | none => rw [hj] at h; cases h
  | some j => rw [hj] at h; exact ⟨j, rfl, by simpa using h⟩

set_option maxRecDepth 100000 in
set_option maxHeartbeats 2000000 in
theorem big_cmp (w : World) (b B b' B' : Nat) (ws ws' : List Nat) (h : BigOwn w b B ws) (h' : BigOwn w b' B' ws') :
    Calls Tryz.prog 109 #[.pointer (some ⟨b, 0, none⟩), .pointer (some ⟨b', 0, none⟩)] w fun e w' => ∃ r : Int, e = .returned (.int .i64 r) ∧ CmpIs r ws ws' ∧ Below w.heap.size w w' := by
  by_cases hbb : b = b'
  · subst hbb
    have Hu : Hid (ws = ws') := h.unique h'
    obtain ⟨j, hj, _⟩ := info_size sizeInt
    have hpe := run_eql_ptr_same w ⟨b, 0, none⟩ Tryz.underlying141 hj
    clear h h' hj
    go_enter Tryz.func109, Tryz.ntmps109
    go_wp2
    go_ret
    exact ⟨0, rfl, ⟨fun _ => Hu.out, fun _ => rfl⟩, Below.refl _ _⟩
  · obtain ⟨ao, n, c, c0, c1, hN⟩ := h.read
    obtain ⟨ao', n', c', c0', c1', hN'⟩ := h'.read
    have hc := Lib.hid (fun w' (hb : Below w.heap.size w w') => nat_cmp w' ao ao' n c n' c' ws ws' ⟨hN.len, hN.lim, hN.nrm, fun hne => by
      obtain ⟨g, hg, hcell⟩ := hN.at_ hne
      exact ⟨g, hg, fun j hj => (hb.cell (p := ⟨g, j, none⟩) (World.block_lt_of_cell? w _ (hcell j hj))).trans (hcell j hj)⟩⟩ ⟨hN'.len, hN'.lim, hN'.nrm, fun hne => by
      obtain ⟨g, hg, hcell⟩ := hN'.at_ hne
      exact ⟨g, hg, fun j hj => (hb.cell (p := ⟨g, j, none⟩) (World.block_lt_of_cell? w _ (hcell j hj))).trans (hcell j hj)⟩⟩)
    obtain ⟨j, hj, hj2⟩ := info_size sizeInt
    have hpe := run_eql_ptr_other w (a := ⟨b, 0, none⟩) (b := ⟨b', 0, none⟩) Tryz.underlying141 hj (by rw [hj2]; decide) (by simp [hbb]) h.2.choose_spec.1 h'.2.choose_spec.1
    have hblt : b < w.heap.size := (Array.getElem?_eq_some_iff.1 h.2.choose_spec.1).1
    have keep0 : ∀ w3 : World, Below w.heap.size w w3 → w3.cell? ⟨b, 0, none⟩ = some (.bool false) := fun w3 hb3 => (hb3.cell (p := ⟨b, 0, none⟩) hblt).trans c0
    clear h h' hN hN' hj hj2
    go_enter Tryz.func109, Tryz.ntmps109
    go_wp2
    go_quiet (fail)
    go_wp2
    go_region_with ((go_at_call 135; refine (hc.out _ (by exact ((below_drewN (Below.refl _ w) _).drew))).mono ?_; rintro e w3 ⟨r, rfl, hr, hr1, hr2, hb3⟩; have hbx : Hid (Below w.heap.size w w3) := ((below_drewN (Below.refl _ w) _).drew).trans hb3; have hk3 := keep0 w3 hbx.out))
    all_goals go_wp2
    all_goals go_ret
    all_goals exact ⟨r, rfl, hr, hbx.out⟩
end Go.Proofs.YtdmggcbbfljciaaGreatDoor
