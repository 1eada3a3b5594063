/- FnBoundSelf returns true for every range of levels. The row (from what the listed tables hold) and the card (the tables tied to the program's text). No further condition. -/
import Derived.Test.YtaloidnoeafgiaaDoorRows
import Derived.Test.YtaloidnoeafgiaaDoorCards
import Derived.Test.YtaloidnoeafgiaaDoorTie
import Derived.Test.YtaloidnoeafgiaaDoorLaid
import Derived.Test.YtaloidnoeafgiaaDoorLwBoundSelf
import Derived.Test.YtaloidnoeafgiaaDoorOpen
import Derived.WalkKit
import Derived.ProofKit
import Derived.OpenShut
import Derived.ChangeOld
import Derived.SevenTiedAt
import Derived.SizedLaws
import Derived.ShutString
namespace Go.Proofs.YtaloidnoeafgiaaDoor
open Go.ChangeShapes Go.WideShapes Go.ChangeAt Go.RowKit


theorem own : ownKnob Tryd.prog.godebug = none := by kernel_rfl
theorem laidOut : laidOutB Tryd.prog = true := by kernel_rfl

set_option maxRecDepth 100000 in
theorem fnBoundSelf_lifted (os : Os) (started : os.Started) (H : Type) (enc : TypeId × Value → H) :
    ReturnsInHanded {} Tryd.checked os 9 .any (fun w args => (Rows.fnBoundSelfSpec.pre enc Tryd.prog Tryd.f9 [] false w args ∧ laidMetH Tryd.prog laids w) ∧ sizedMet enc Tryd.prog Tryd.f9 (OpenSpec.ofChange Rows.fnBoundSelfSpec) false w args)
      (Rows.fnBoundSelfSpec.post enc Tryd.prog Tryd.f9 false true false false) := by
  refine returnsInHanded_of_change_and (C := Tryd.checked) (X := fun w _ => laidMetH Tryd.prog laids w) (fun _ _ _ hh h => h.of_heap hh) own started (by kernel_rfl) Tryd.func9
    (ChangeSpec.witness_shaped (enc := enc) (C := Tryd.checked) (os := os) (X := fun w _ => laidMetH Tryd.prog laids w) false (World.doorLaid Tryd.prog 400 os) #[.agg #[.int .i64 0, .slice none 0 0, .int .i64 0, .slice none 0 0]] 8 rfl (World.shaped_of_RefB (by kernel_rfl) (by kernel_rfl)) (by kernel_rfl) (by kernel_rfl) (by kernel_rfl) (door_met os _)) ?_
  intro W base args ds gs before hval0 hW _ hsz0 hL _
  have hval : ∀ (j : Nat) t v, Tryd.f9.params[j]? = some t → args[j]? = some v → Value.okWide Tryd.prog W .any base t v := hval0
  have hW' := hW
  obtain ⟨p, q, hA0, hV, rfl, hfz, hnd⟩ := hW
  have hA : DataW.TrodAll enc Tryd.prog W 0 (fun _ => true) true Tryd.f9.params.toList args.toList ds p := hA0
  rw [Tryd.params9] at hA hval
  obtain ⟨v0, vs0, d0, ds0, p0, q0, hargs, rfl, rfl, h0, r0⟩ := trodAll_cons hA
  obtain ⟨rfl, rfl, rfl⟩ := trodAll_nil r0
  obtain rfl : args = #[v0] := by cases args; simp_all
  obtain ⟨rfl, rfl⟩ := trodVars_none hV
  have k0 := h0
  have lt0 : ∀ x ∈ p0, x.block < W.heap.size := by obtain ⟨m, hm⟩ := k0; exact DataW.trod_lt m _ _ _ hm
  obtain ⟨s0, ao0, l0, c0, t0, bo0, m0, e0, rfl, hi0, hj0⟩ := open_span (hval 0 26 v0 rfl rfl) h0
  clear hA0 hval0 hsz0
  refine (fnBoundSelf_walk s0 t0 ao0 l0 c0 bo0 m0 e0 W hi0 hj0 (tabs_of_laid hL)).mono fun e W' ⟨he, bel⟩ => ?_
  subst he
  exact ⟨_, rfl, _, _, _, [], _, [], hW', trodAll_mk1 (shut_bool Tryd.underlying4 _), (trodAll_cons_mk (Below.trod laidOut (by kernel_rfl) (of_decide_eq_true (by kernel_rfl)) k0 bel lt0) trodAll_mk0), rfl, bel.frame _, fun h => by cases h⟩

theorem fnBoundSelf_holds : Rows.FnBoundSelfSaid :=
  OpenClaim.holds_of_wide 9 Tryd.f9 rfl rfl rfl rfl rfl rfl rfl ⟨rfl, rfl, rfl, rfl, rfl⟩ rfl rfl rfl rfl rfl (by kernel_rfl) Tryd.func9 (by kernel_rfl)
    (of_decide_eq_true (by kernel_rfl)) (by unfold Func.isWrapper; first | (rw [if_pos (by decide +kernel)]; kernel_rfl) | (rw [if_neg (by decide +kernel)]; exact ⟨rfl, rfl⟩))
    (fun os started H enc _ => fnBoundSelf_lifted os started H enc)

theorem fnBoundSelf_card : Rows.FnBoundSelfCardSaid :=
  Claim7.holds_tied_plain_at .later [] [.data, .data, .data, .sentinel, .sentinel] true Rows.fnBoundSelfCard.stood.harness true
    fnBoundSelf_holds (fun _ h => by cases h) (by kernel_rfl) (fun _ h => by cases h) fnBoundSelf_row_tie rfl ⟨rfl, rfl⟩ (by kernel_rfl) rfl
    (fun f fn hf hfn => by
      obtain rfl : f = 9 := Option.some.inj ((show Tryd.prog.funcNamed "containerlabels/laws.FnBoundSelf" = some 9 by kernel_rfl).symm.trans hf) |>.symm
      obtain rfl : fn = Tryd.f9 := (Option.some.inj (Tryd.func9.symm.trans hfn)).symm
      exact ⟨by kernel_rfl, fun j t ht => by
        rw [Tryd.params9] at ht
        have hm : t ∈ [26] := by simpa using Array.mem_of_getElem? ht
        have hall : ([26].all fun u => !Tryd.prog.wantsStandIn u) = true := by kernel_rfl
        exact (show Tryd.prog.wantsStandIn t = false by simpa using List.all_eq_true.1 hall t hm)⟩)
    (by kernel_rfl)
#print axioms fnBoundSelf_card
end Go.Proofs.YtaloidnoeafgiaaDoor
