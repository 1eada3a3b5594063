/- (*big.Int).SetBit with b = 1 at z = x. -/
import Derived.Test.YtdmggcbbfljciaaGreatDoorNat2
import Derived.Deep.RegionWith
import Derived.Deep.RegionHeld3
import Derived.Deep.Draws
import Derived.Deep.QuietTactic
import Derived.BigQuiet
import Derived.OneCell
import Derived.Deep.DeepMust
import Derived.Outline
namespace Go.Proofs.YtdmggcbbfljciaaGreatDoor
open Go.RowKit

/-- block b is a big.Int that is not negative and has these words, in a row of a block from B on -/
def BigOwn (W : World) (b B : Nat) (ws : List Nat) : Prop :=
  b < B ∧ ∃ v, W.heap[b]? = some (.cells #[.bool false, v] 177 (0, 0)) ∧ W.ownsRow B 207 1 v ws.length (words ws) ∧ CL.Nrm ws ∧ ws.length ≤ 2000

/-- below B, but for block b, the world is as it was -/
structure BelowX (B b : Nat) (w w' : World) : Prop where
  os : w'.os = w.os
  tape : w'.tape = w.tape
  output : w'.output = w.output
  size : w.heap.size ≤ w'.heap.size
  block : ∀ k, k < B → k ≠ b → w'.heap[k]? = w.heap[k]?

theorem BelowX.refl (B b : Nat) (w : World) : BelowX B b w w := ⟨rfl, rfl, rfl, Nat.le_refl _, fun _ _ _ => rfl⟩
theorem BelowX.trans {B b : Nat} {x y z : World} (h : BelowX B b x y) (k : BelowX B b y z) : BelowX B b x z :=
  ⟨k.os.trans h.os, k.tape.trans h.tape, k.output.trans h.output, Nat.le_trans h.size k.size, fun i hi hb => (k.block i hi hb).trans (h.block i hi hb)⟩
theorem BelowX.of_below {B b : Nat} {w w' : World} (h : Below B w w') : BelowX B b w w' := ⟨h.os, h.tape, h.output, h.size, fun k hk _ => h.block k hk⟩
theorem BelowX.below {B b B0 : Nat} {w w' : World} (h : BelowX B b w w') (hb : B0 ≤ b) (hB : B0 ≤ B) : Below B0 w w' := ⟨h.os, h.tape, h.output, h.size, fun k hk => h.block k (by omega) (by omega)⟩
theorem BelowX.cell {B b : Nat} {w w' : World} (h : BelowX B b w w') {p : Addr} (hp : p.block < B) (hb : p.block ≠ b) : w'.cell? p = w.cell? p := World.cell?_of_block (w := w) (h.block p.block hp hb)

/-- what lies below a world's size stays a big.Int -/
theorem BigOwn.below {W W' : World} {b B : Nat} {ws : List Nat} (h : BigOwn W b B ws) (hb : Below W.heap.size W W') : BigOwn W' b B ws := by
  obtain ⟨h0, v, h1, h2, h3, h4⟩ := h
  have hlt : b < W.heap.size := (Array.getElem?_eq_some_iff.1 h1).1
  refine ⟨h0, v, (hb.block b hlt).trans h1, ?_, h3, h4⟩
  obtain ⟨h5, h6⟩ := h2
  refine ⟨h5, ?_⟩
  rcases h6 with h6 | ⟨g, cap, cur, r1, r2, r3, r4⟩
  · exact Or.inl h6
  · have hg : g < W.heap.size := (Array.getElem?_eq_some_iff.1 r3).1
    exact Or.inr ⟨g, cap, cur, r1, r2, (hb.block g hg).trans r3, r4⟩

/-- nat.setBit at a slice that the call owns, whatever the bit -/
theorem nat_setBit (B : Nat) (v : Value) (ws : List Nat) (i : Nat) (I : Int) (hI : I = i) (w : World) (hB : B ≤ w.heap.size) (h : w.ownsRow B 207 1 v ws.length (words ws)) (hw : CL.Nrm ws) (hi : i < 100000) :
    Calls Tryz.prog 153 #[v, v, .int .u64 I, .int .u64 1] w fun e w' => ∃ ao' c', e = .returned (.slice ao' (CL.setw ws i).length c') ∧ w'.ownsRow B 207 1 (.slice ao' (CL.setw ws i).length c') (CL.setw ws i).length (words (CL.setw ws i)) ∧ Below B w w' := by
  have fin : ∀ (e : Ending) (w' : World), (∃ v', e = .returned v' ∧ w'.ownsRow B 207 1 v' (CL.setw ws i).length (words (CL.setw ws i)) ∧ Below B w w') → ∃ ao' c', e = .returned (.slice ao' (CL.setw ws i).length c') ∧ w'.ownsRow B 207 1 (.slice ao' (CL.setw ws i).length c') (CL.setw ws i).length (words (CL.setw ws i)) ∧ Below B w w' := by
    rintro e w' ⟨v', rfl, h1, h2⟩
    obtain ⟨a, c, rfl⟩ := owns_shape h1
    exact ⟨a, c, rfl, h1, h2⟩
  subst hI
  by_cases hn : ws.length ≤ i / 64
  · obtain ⟨ao, c0, rfl⟩ := owns_shape h
    exact (setBit_grow B ao c0 ws i w hB h hi hn).mono fin
  · rcases h.2 with ⟨_, h0⟩ | ⟨g, cap, cu, rfl, hb, hh, hnc, hcm, hcs, htake⟩
    · omega
    · exact (setBit_in B g cap ws i w h hb hnc (by unfold maxLen at hcm; omega) hw.1 hi (by omega)).mono fin

theorem big_end (b B : Nat) (v : Value) (ws : List Nat) (i : Nat) (w w2 : World) (v' : Value) (hbB : b < B) (hb : w.heap[b]? = some (.cells #[.bool false, v] 177 (0, 0))) (hbel : Below B w w2)
    (hown : w2.ownsRow B 207 1 v' (CL.setw ws i).length (words (CL.setw ws i))) (hw : CL.Nrm ws) (hl : ws.length ≤ 2000) (hi : i < 100000) :
    BigOwn ((w2.setCell ⟨b, 1, none⟩ v').setCell ⟨b, 0, none⟩ (.bool false)) b B (CL.setw ws i) ∧ BelowX B b w ((w2.setCell ⟨b, 1, none⟩ v').setCell ⟨b, 0, none⟩ (.bool false)) := by
  have h2 : w2.heap[b]? = some (.cells #[.bool false, v] 177 (0, 0)) := (hbel.block b hbB).trans hb
  have h3 := heap_setCell_same w2 b 1 _ _ v' h2
  have h4 := heap_setCell_same (w2.setCell ⟨b, 1, none⟩ v') b 0 _ _ (.bool false) h3
  refine ⟨⟨hbB, v', by rw [h4]; rfl, ownsRow_setCell_below (ownsRow_setCell_below hown hbB _) hbB _, CL.setw_nrm ws i hw, ?_⟩, ?_⟩
  · rw [CL.setw_length]; omega
  · refine ⟨hbel.os, hbel.tape, hbel.output, by simpa [World.setCell] using hbel.size, fun k hk hkb => ?_⟩
    rw [Below.heap_setCell _ _ _ _ hkb, Below.heap_setCell _ _ _ _ hkb]
    exact hbel.block k hk

set_option maxRecDepth 100000 in
set_option maxHeartbeats 2000000 in
theorem big_setBit (b B : Nat) (ws : List Nat) (i : Nat) (I : Int) (hI : I = i) (w : World) (h : BigOwn w b B ws) (hBs : B ≤ w.heap.size) (hi : i < 100000) :
    Calls Tryz.prog 130 #[.pointer (some ⟨b, 0, none⟩), .pointer (some ⟨b, 0, none⟩), .int .i64 I, .int .u64 1] w fun e w' => e = .returned (.pointer (some ⟨b, 0, none⟩)) ∧ BigOwn w' b B (CL.setw ws i) ∧ BelowX B b w w' := by
  obtain ⟨hbB, v, hb, hown, hw, hl⟩ := h
  have hlt : b < w.heap.size := (Array.getElem?_eq_some_iff.1 hb).1
  have c0 : w.cell? ⟨b, 0, none⟩ = some (.bool false) := row_cell (l := [.bool false, v]) hb rfl
  have c1 : w.cell? ⟨b, 1, none⟩ = some v := row_cell (l := [.bool false, v]) hb rfl
  have f0 : w.frozen? ⟨b, 0, none⟩ = false := row_free (l := [.bool false, v]) hb 0
  have f1 : w.frozen? ⟨b, 1, none⟩ = false := row_free (l := [.bool false, v]) hb 1
  have I0 : 0 ≤ I := by omega
  have I1 : I < 100000 := by omega
  have HI : Hid (I = (i : Int)) := hI
  have HIw : Hid (IntKind.u64.wrap I = (i : Int)) := by
    show IntKind.u64.wrap I = (i : Int)
    rw [IntKind.wrap_u64]; omega
  clear hI
  have Hb : Hid (w.heap[b]? = some (.cells #[.bool false, v] 177 (0, 0))) := hb
  clear hb
  have keep0 : ∀ w2 : World, Below B w.drew w2 → w2.cell? ⟨b, 0, none⟩ = some (.bool false) := fun w2 hb2 => (hb2.cell (p := ⟨b, 0, none⟩) (by exact hbB)).trans c0
  have keep1 : ∀ w2 : World, Below B w.drew w2 → w2.cell? ⟨b, 1, none⟩ = some v := fun w2 hb2 => (hb2.cell (p := ⟨b, 1, none⟩) (by exact hbB)).trans c1
  have keepf0 : ∀ w2 : World, Below B w.drew w2 → w2.frozen? ⟨b, 0, none⟩ = false := fun w2 hb2 => (hb2.frozen (p := ⟨b, 0, none⟩) (by exact hbB)).trans f0
  have keepf1 : ∀ w2 : World, Below B w.drew w2 → w2.frozen? ⟨b, 1, none⟩ = false := fun w2 hb2 => (hb2.frozen (p := ⟨b, 1, none⟩) (by exact hbB)).trans f1
  obtain ⟨ao, cc, rfl⟩ := owns_shape hown
  go_enter Tryz.func130, Tryz.ntmps130
  go_wp2_with fail
  go_region_with ((go_at_call 153; refine (nat_setBit B _ ws i _ HIw.out _ (by exact hBs) (by exact hown) hw hi).mono ?_; rintro e w2 ⟨a2, cc2, rfl, hown2, hbel2⟩; have hc0 := keep0 w2 hbel2; have hc1 := keep1 w2 hbel2; have hf0 := keepf0 w2 hbel2; have hf1 := keepf1 w2 hbel2))
  all_goals go_wp2
  all_goals go_ret
  all_goals exact ⟨rfl, big_end b B _ ws i w w2 _ hbB Hb.out ((Below.refl B w).drew.trans hbel2) hown2 hw hl hi⟩
end Go.Proofs.YtdmggcbbfljciaaGreatDoor
