/- spec.Level.Text, spec.Level.Loose. -/
import Derived.Test.YtaloidnoeafgiaaGreatDoorSpec3
namespace Go.Proofs.YtaloidnoeafgiaaGreatDoor
open Go.RowKit Go.Lib

theorem catsT_nil (ns : List Nat) : CL.catsT ns = [] ↔ ns = [] := by
  constructor
  · intro h
    cases ns with
    | nil => rfl
    | cons a l => exact absurd h (CL.tks_ne _ (CL.toksOf_ne _ (by simp)))
  · intro h; subst h; simp [CL.catsT, CL.toksOf, CL.tks, CL.joinC]

set_option maxRecDepth 100000 in
set_option maxHeartbeats 2000000 in
theorem level_text (s : Nat) (hs : s ≤ 9999) (ao : Option Addr) (ns : List Nat) (c : Nat) (w : World) (h : NatsAt w ao ns) (h9 : ∀ x ∈ ns, x ≤ 9999) (hl : ns.length ≤ 500) :
    Calls Tryz.prog 29 #[.agg #[.int .i64 s, .slice ao ns.length c]] w fun e w' => ∃ r : ByteArray, e = .returned (.string r) ∧ Hid (r.data.toList = CL.lvT s (CL.toksOf ns)) ∧ r.size ≤ 15020000 ∧ Below w.heap.size w w' := by
  have H0 : Hid (Below w.heap.size w (w.alloc (.cells #[.int .i64 s, .slice ao ns.length c] 24))) := (Below.refl _ _).alloc (Nat.le_refl _) _
  have Hn := Lib.hid h
  have H9 := Lib.hid h9
  have hdA := decimal_any s (Nat.le_trans hs (by decide))
  clear h h9
  go_enter Tryz.func29, Tryz.ntmps29
  go_wp2_with fail
  refine (hdA _).mono ?_
  rintro e w2 ⟨r1, rfl, hr1, hb2⟩
  have hz1 : r1.size ≤ 10000 := by have := dec_len s; rw [Lib.size_eq, hr1.out]; omega
  have hbx : w2.heap[w.heap.size]? = some (.cells #[.int .i64 s, .slice ao ns.length c] 24 (0, 0)) := by
    rw [hb2.block w.heap.size (by simp)]; exact heap_alloc_new _ _
  have c1 := row_cell (l := [.int .i64 s, .slice ao ns.length c]) hbx (j := 1) rfl
  have Hb : Hid (Below w.heap.size w w2) := H0.out.trans (hb2.mono (by simp))
  clear hbx hb2 hdA
  go_wp2_with fail
  refine (cats_spec _ _ _ _ (Hn.out.below Hb.out) H9.out hl).mono ?_
  rintro e w3 ⟨r2, rfl, hr2, hz2, hb3⟩
  have Hb3 : Hid (Below w.heap.size w w3) := Hb.out.trans (hb3.mono Hb.out.size)
  clear hb3 c1
  by_cases hne : ns = []
  · have ho2 := str_nil r2 (by rw [hr2.out]; exact (catsT_nil ns).2 hne)
    have Hne := Lib.hid hne
    clear hne
    go_wp2_with fail
    go_ret
    refine ⟨_, rfl, ?_, ?_, Hb3.out⟩
    · show _ = _
      rw [app_bytes, hr1.out, CL.lvT, if_pos (by rw [Hne.out]; simp [CL.toksOf])]
      simp
    · rw [ByteArray.size_append]; show 1 + _ ≤ _; omega
  · have ho2 := str_some r2 (by rw [hr2.out]; exact fun e => hne ((catsT_nil ns).1 e))
    have Hne := Lib.hid hne
    clear hne
    go_wp2_with fail
    go_ret
    refine ⟨_, rfl, ?_, ?_, Hb3.out⟩
    · show _ = _
      rw [app_bytes, app_bytes, app_bytes, hr1.out, hr2.out, CL.lvT, if_neg (CL.toksOf_ne _ Hne.out)]
      simp [CL.catsT]
    · rw [ByteArray.size_append, ByteArray.size_append, ByteArray.size_append]; show 1 + _ + (1 + _) ≤ _; omega
end Go.Proofs.YtaloidnoeafgiaaGreatDoor
