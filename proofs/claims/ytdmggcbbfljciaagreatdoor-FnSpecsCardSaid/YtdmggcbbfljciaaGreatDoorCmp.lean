/- nat.cmp and Int.Cmp: nought just where the words are the same. -/
import Derived.Test.YtdmggcbbfljciaaGreatDoorToStr
namespace Go.Proofs.YtdmggcbbfljciaaGreatDoor
open Go.RowKit

/-- the numbers are compared down to word i -/
def SameFrom (a b : List Nat) (i : Nat) : Prop := ∀ j, i < j → a.getD j 0 = b.getD j 0

theorem same_all (a b : List Nat) (h : a.length = b.length) (hj : ∀ j, a.getD j 0 = b.getD j 0) : a = b := by
  refine List.ext_getElem h fun j h1 h2 => ?_
  have := hj j
  simpa [List.getD, List.getElem?_eq_getElem h1, List.getElem?_eq_getElem h2] using this

def CmpIs (r : Int) (a b : List Nat) : Prop := r = 0 ↔ a = b

set_option maxRecDepth 100000 in
set_option maxHeartbeats 2000000 in
theorem nat_cmp (w : World) (ao bo : Option Addr) (n c m d : Nat) (a b : List Nat) (ha : Nat_ w ao n a) (hb : Nat_ w bo m b) :
    Calls Tryz.prog 135 #[.slice ao n c, .slice bo m d] w fun e w' => ∃ r : Int, e = .returned (.int .i64 r) ∧ CmpIs r a b ∧ -1 ≤ r ∧ r ≤ 1 ∧ Below w.heap.size w w' := by
  obtain ⟨hla, hal, haw, haat⟩ := ha
  obtain ⟨hlb, hbl, hbw, hbat⟩ := hb
  have hn : n ≤ 2000 := by omega
  have hm : m ≤ 2000 := by omega
  by_cases hnm : n = m
  · subst hnm
    by_cases h0 : n = 0
    · subst h0
      have hab : a = b := by
        rw [List.eq_nil_of_length_eq_zero hla.symm, List.eq_nil_of_length_eq_zero hlb.symm]
      have Hab : Hid (a = b) := hab
      clear hab haat hbat hla hlb
      go_enter Tryz.func135, Tryz.ntmps135
      go_wp2
      go_ret
      exact ⟨0, rfl, ⟨fun _ => Hab.out, fun _ => rfl⟩, by decide, by decide, Below.refl _ _⟩
    · have hna : a ≠ [] := fun e => h0 (by rw [hla, e]; rfl)
      have hnb : b ≠ [] := fun e => h0 (by rw [hlb, e]; rfl)
      obtain ⟨g, rfl, hca⟩ := haat hna
      obtain ⟨g2, rfl, hcb⟩ := hbat hnb
      have HLa : Hid (n = a.length) := hla
      have HLb : Hid (n = b.length) := hlb
      have HCa : Hid (∀ j, j < a.length → w.cell? ⟨g, j, none⟩ = some (.int .u64 (a.getD j 0 : Nat))) := hca
      have HCb : Hid (∀ j, j < b.length → w.cell? ⟨g2, j, none⟩ = some (.int .u64 (b.getD j 0 : Nat))) := hcb
      have hne : ((n : Int) != (n : Int)) = false := by simp
      have hn0 : ((n : Int) == 0) = false := by simp; omega
      clear hca hcb hla hlb haat hbat hna hnb
      go_enter Tryz.func135, Tryz.ntmps135
      go_wp2
      go_loopg [7] n (fun mm iv wr => ∃ i : Nat, iv = .int .i64 i ∧ Hid (mm = i + 1) ∧ Hid (i < n ∧ SameFrom a b i) ∧ Hid (Below w.heap.size w wr))
      case atStart => exact ⟨n - 1, by go_num, (show n = n - 1 + 1 by omega), ⟨by omega, by
        intro j hj
        have e1 := HLa.out
        have e2 := HLb.out
        simp only [List.getD]; rw [List.getElem?_eq_none (by omega), List.getElem?_eq_none (by omega)]⟩, Below.refl _ _⟩
      case round =>
        obtain ⟨i, rfl, hmm, hi, hbel⟩ := hrel
        have hin := hi.out.1
        have c1 := (hbel.out.cell (p := ⟨g, i, none⟩) (World.block_lt_of_cell? w _ (HCa.out i (by have := HLa.out; omega)))).trans (HCa.out i (by have := HLa.out; omega))
        have c2 := (hbel.out.cell (p := ⟨g2, i, none⟩) (World.block_lt_of_cell? w _ (HCb.out i (by have := HLb.out; omega)))).trans (HCb.out i (by have := HLb.out; omega))
        obtain ⟨x, hx⟩ : ∃ x, x = a.getD i 0 := ⟨_, rfl⟩
        obtain ⟨y, hy⟩ : ∃ y, y = b.getD i 0 := ⟨_, rfl⟩
        rw [← hx] at c1
        rw [← hy] at c2
        have HX : Hid (x = a.getD i 0) := hx
        have HY : Hid (y = b.getD i 0) := hy
        have i0 : (0 : Int) ≤ i := by omega
        have in1 : (i : Int) < n := by omega
        clear hx hy
        by_cases hxy : x = y
        · subst hxy
          have hxe : ((x : Int) == (x : Int)) = true := by simp
          have hxl : decide ((x : Int) < (x : Int)) = false := by simp
          have hd : SameFrom a b (i - 1) := by
            intro j hj
            by_cases e : j = i
            · subst e; rw [← HX.out, ← HY.out]
            · exact hi.out.2 j (by omega)
          have Hd : Hid (SameFrom a b (i - 1)) := hd
          clear hd
          by_cases hi0 : 0 < i
          · have hi0b : decide ((0 : Int) < (i : Int)) = true := by simp; omega
            have ei : (i : Int) - 1 = ((i - 1 : Nat) : Int) := by omega
            have Ei : Hid ((i : Int) - 1 = ((i - 1 : Nat) : Int)) := ei
            clear ei
            go_wp2
            go_quiet (fail)
            go_wp2
            go_roundg (gk - 1)
            case measure => have := hmm.out; omega
            case rel => have := hmm.out; exact ⟨i - 1, by rw [Ei.out], (show _ = _ by omega), ⟨by omega, Hd.out⟩, below_drewN hbel.out _⟩
          · have hi0b : decide ((0 : Int) < (i : Int)) = false := by simp; omega
            have Hall : Hid (a = b) := same_all a b (by rw [← HLa.out, HLb.out]) (by
              intro j
              by_cases e : j = 0
              · have : i = 0 := by omega
                subst this; subst e; rw [← HX.out, ← HY.out]
              · exact hi.out.2 j (by omega))
            go_wp2
            go_quiet (fail)
            go_wp2
            go_quiet (fail)
            go_wp2
            go_quiet (fail)
            go_wp2
            go_ret
            exact ⟨0, rfl, ⟨fun _ => Hall.out, fun _ => rfl⟩, by decide, by decide, below_drewN (below_drewN (below_drewN hbel.out _) _) _⟩
        · have hxe : ((x : Int) == (y : Int)) = false := by simp; omega
          have Hne : Hid (a ≠ b) := by
            intro e
            have e1 := HX.out
            have e2 := HY.out
            rw [e] at e1
            exact hxy (e1.trans e2.symm)
          by_cases hlt : x < y
          · have hltb : decide ((x : Int) < (y : Int)) = true := by simp; omega
            by_cases hi0 : 0 < i
            · have hi0b : decide ((0 : Int) < (i : Int)) = true := by simp; omega
              go_wp2
              go_quiet (fail)
              go_wp2
              go_quiet (fail)
              go_wp2
              go_ret
              exact ⟨-1, rfl, ⟨fun h => absurd h (by decide), fun h => absurd h Hne.out⟩, by decide, by decide, below_drewN (below_drewN hbel.out _) _⟩
            · have hi0b : decide ((0 : Int) < (i : Int)) = false := by simp; omega
              go_wp2
              go_quiet (fail)
              go_wp2
              go_quiet (fail)
              go_wp2
              go_ret
              exact ⟨-1, rfl, ⟨fun h => absurd h (by decide), fun h => absurd h Hne.out⟩, by decide, by decide, below_drewN (below_drewN hbel.out _) _⟩
          · have hltb : decide ((x : Int) < (y : Int)) = false := by simp; omega
            have hgtb : decide ((y : Int) < (x : Int)) = true := by simp; omega
            by_cases hi0 : 0 < i
            · have hi0b : decide ((0 : Int) < (i : Int)) = true := by simp; omega
              go_wp2
              go_quiet (fail)
              go_wp2
              go_quiet (fail)
              go_wp2
              go_quiet (fail)
              go_wp2
              go_ret
              exact ⟨1, rfl, ⟨fun h => absurd h (by decide), fun h => absurd h Hne.out⟩, by decide, by decide, below_drewN (below_drewN (below_drewN hbel.out _) _) _⟩
            · have hi0b : decide ((0 : Int) < (i : Int)) = false := by simp; omega
              go_wp2
              go_quiet (fail)
              go_wp2
              go_quiet (fail)
              go_wp2
              go_quiet (fail)
              go_wp2
              go_ret
              exact ⟨1, rfl, ⟨fun h => absurd h (by decide), fun h => absurd h Hne.out⟩, by decide, by decide, below_drewN (below_drewN (below_drewN hbel.out _) _) _⟩
  · have hnb : ((n : Int) != (m : Int)) = true := by simp; omega
    have hne2 : ((n : Int) == (m : Int)) = false := by simp; omega
    have Hne : Hid (a ≠ b) := by
      intro e; apply hnm; rw [hla, hlb, e]
    clear hla hlb haat hbat
    by_cases hlt : n < m
    · have hltb : decide ((n : Int) < (m : Int)) = true := by simp; omega
      go_enter Tryz.func135, Tryz.ntmps135
      go_wp2
      go_ret
      exact ⟨-1, rfl, ⟨fun h => absurd h (by decide), fun h => absurd h Hne.out⟩, by decide, by decide, Below.refl _ _⟩
    · have hltb : decide ((n : Int) < (m : Int)) = false := by simp; omega
      have hgtb : decide ((m : Int) < (n : Int)) = true := by simp; omega
      go_enter Tryz.func135, Tryz.ntmps135
      go_wp2
      go_ret
      exact ⟨1, rfl, ⟨fun h => absurd h (by decide), fun h => absurd h Hne.out⟩, by decide, by decide, Below.refl _ _⟩
end Go.Proofs.YtdmggcbbfljciaaGreatDoor
