/- validOptions: the options of a label. -/
import Derived.Test.YtaloidnoeafgiaaDoorCtx
namespace Go.Proofs.YtaloidnoeafgiaaDoor
open Go.RowKit Go.Lib

abbrev kF : ByteArray := ⟨#[102, 105, 108, 101, 116, 121, 112, 101]⟩
abbrev kD : ByteArray := ⟨#[100, 105, 115, 97, 98, 108, 101]⟩

/-- the pairs of the options -/
def optL : Pairs := putP (putP (putP (putP (putP (putP [] kD (.bool true)) kT (.bool true)) kF (.bool true)) kU (.bool true)) kR (.bool true)) kL (.bool true)

/-- an option's kind, but for disable -/
def Kind (k : ByteArray) : Prop := k = kL ∨ k = kR ∨ k = kT ∨ k = kF ∨ k = kU

theorem lk_opt (k : ByteArray) : lk optL k = if k = kL ∨ k = kR ∨ k = kU ∨ k = kF ∨ k = kT ∨ k = kD then some (.bool true) else none := by
  unfold optL
  simp only [lk_put, lk_nil]
  by_cases h1 : k = kL
  · simp [h1]
  · by_cases h2 : k = kR
    · simp [h2]
    · by_cases h3 : k = kU
      · simp [h3]
      · by_cases h4 : k = kF
        · simp [h4]
        · by_cases h5 : k = kT
          · simp [h5]
          · by_cases h6 : k = kD
            · simp [h6]
            · rw [if_neg h1, if_neg h2, if_neg h3, if_neg h4, if_neg h5, if_neg h6, if_neg (by simp only [h1, h2, h3, h4, h5, h6, or_self, not_false_eq_true])]

theorem lk_kind {k : ByteArray} (h : Kind k) : lk optL k = some (.bool true) := by
  rw [lk_opt, if_pos]
  rcases h with h | h | h | h | h <;> simp [h]

theorem lk_other {k : ByteArray} (h : ¬ Kind k) (hd : k ≠ kD) : lk optL k = none := by
  rw [lk_opt, if_neg]
  intro h1
  apply h
  unfold Kind
  rcases h1 with h1 | h1 | h1 | h1 | h1 | h1
  · exact Or.inl h1
  · exact Or.inr (Or.inl h1)
  · exact Or.inr (Or.inr (Or.inr (Or.inr h1)))
  · exact Or.inr (Or.inr (Or.inr (Or.inl h1)))
  · exact Or.inr (Or.inr (Or.inl h1))
  · exact absurd h1 hd

theorem zero_bool (w : World) : (zeroValue 4).run Tryd.prog w = .ok (.bool false) w := by kernel_rfl

set_option maxRecDepth 100000 in
set_option maxHeartbeats 2000000 in
theorem validOptions_any (w : World) :
    Calls Tryd.prog 68 #[] w fun e w' => e = .returned (.map (some w.heap.size)) ∧ MapAt w' w.heap.size optL ∧ Below w.heap.size w w' := by
  have hmk := @run_makeMap Tryd.prog
  have hm : MapAt (w.alloc (.map #[] 0)) w.heap.size [] := MapAt.made w
  have HB : Hid (Below w.heap.size w (w.alloc (.map #[] 0))) := (Below.refl _ _).alloc (Nat.le_refl _) _
  go_enter Tryd.func68, Tryd.ntmps68
  go_wp2_with (refine wpList_insert _ rfl _ _ _ 98 rfl 9 4 Tryd.underlying98 Tryd.underlying9 w.heap.size _ rfl hm _ _ rfl rfl ?_; intro w3 hm hg; have HB : Hid (Below w.heap.size w w3) := HB.out.grown hg HB.out.size (fun k hk => by cases hk; exact Nat.le_refl _); clear hg)
  go_ret
  exact ⟨rfl, hm, HB.out⟩
end Go.Proofs.YtaloidnoeafgiaaDoor
