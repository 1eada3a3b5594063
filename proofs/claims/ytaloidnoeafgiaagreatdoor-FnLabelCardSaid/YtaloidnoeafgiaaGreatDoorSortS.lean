/- slices.Sort at texts of the call's own. -/
import Derived.Test.YtaloidnoeafgiaaGreatDoorShelfS
import Derived.Test.YtaloidnoeafgiaaGreatDoorCtx
import Derived.Sort.OwnSorted
namespace Go.Proofs.YtaloidnoeafgiaaGreatDoor
open Go.RowKit Go.Lib Go.Sort

def bs (s : ByteArray) : List UInt8 := s.data.toList
theorem enc_bs (ss : List ByteArray) : (ss.map bs).map encStr = strsV ss := by
  unfold strsV
  rw [List.map_map]
  apply List.map_congr_left
  intro s _
  show encStr s.data.toList = .string s
  unfold encStr
  congr 1

theorem of_bs (ls : List (List UInt8)) : ∃ ts : List ByteArray, ts.map bs = ls := ⟨ls.map fun l => ⟨l.toArray⟩, by rw [List.map_map]; simp [bs, Function.comp_def]⟩

/-- growing texts -/
def Growing (ts : List ByteArray) : Prop := ts.Pairwise fun a b => bs a ≤ bs b

theorem bs_le_trans (a b c : List UInt8) : decide (a ≤ b) = true → decide (b ≤ c) = true → decide (a ≤ c) = true := by
  simp only [decide_eq_true_eq]
  exact fun h1 h2 => List.le_trans h1 h2
theorem bs_le_total (a b : List UInt8) : (decide (a ≤ b) || decide (b ≤ a)) = true := by
  rw [Bool.or_eq_true, decide_eq_true_eq, decide_eq_true_eq]
  exact List.le_total a b

theorem sort_strs (B g cap : Nat) (ss : List ByteArray) (w : World) (h : w.ownsRow B 9 1 (.slice (some ⟨g, 0, none⟩) ss.length cap) ss.length (strsV ss)) (hl : ss.length < 4611686018427387904) :
    Calls Tryz.prog 35 #[.slice (some ⟨g, 0, none⟩) ss.length cap] w fun e w' => e = .returned (.tuple #[]) ∧ ∃ ts : List ByteArray, ts.Perm ss ∧ Growing ts ∧ w'.ownsRow B 9 1 (.slice (some ⟨g, 0, none⟩) ss.length cap) ss.length (strsV ts) ∧ w.grownBy w' (some g) := by
  rcases h.2 with ⟨hnil, _⟩ | ⟨g', cap', cur, he, hbase, hb, h1, h2, h3, h4⟩
  · cases hnil
  · simp only [Value.slice.injEq, Option.some.injEq, Addr.mk.injEq, and_true, true_and] at he
    obtain ⟨rfl, rfl⟩ := he
    have hH : Holds encStr w g 0 (ss.map bs).toArray := holds_of_block hb (by rw [List.length_map, enc_bs]; simpa using h4)
    have hc := Tryz.slices_Sort_string g 0 cap (ss.map bs) w hH (Array.getElem?_eq_some_iff.1 hb).1 (by rw [List.length_map]; exact hl)
    rw [List.length_map] at hc
    refine hc.mono ?_
    rintro e w' ⟨rfl, n, os, rfl⟩
    obtain ⟨ts, hts⟩ := of_bs ((ss.map bs).mergeSort fun x y => decide (x ≤ y))
    have hp : (ts.map bs).Perm (ss.map bs) := by rw [hts]; exact List.mergeSort_perm _ _
    have hsorted : (ts.map bs).Pairwise (fun a b => a ≤ b) := by
      rw [hts]
      exact (List.pairwise_mergeSort bs_le_trans bs_le_total (ss.map bs)).imp (fun h => by simpa using h)
    have hperm : ts.Perm ss := by
      have h5 := hp.map (fun l : List UInt8 => (⟨l.toArray⟩ : ByteArray))
      rw [List.map_map, List.map_map] at h5
      have e : (fun l : List UInt8 => (⟨l.toArray⟩ : ByteArray)) ∘ bs = id := by funext s; simp [bs]
      rw [e, List.map_id, List.map_id] at h5
      exact h5
    refine ⟨rfl, ts, hperm, List.pairwise_map.1 hsorted, ?_, by rw [← hts]; exact grownBy_sorted _⟩
    have hl2 : (ts.map bs).length = (ss.map bs).length := hp.length_eq
    have := ownsRow_sorted (w := w) (n := n) (os := os) (ts := ts.map bs) (ss := ss.map bs) hl2 hbase hb (by simpa using h1) h2 (by simpa using h3)
    rw [enc_bs, List.length_map, hts] at this
    exact this

/-- growing lists of the same texts are the same -/
theorem growing_unique {a b : List ByteArray} (h : a.Perm b) (ha : Growing a) (hb : Growing b) : a = b := by
  have h1 : (a.map bs) = (b.map bs) := (h.map bs).eq_of_pairwise (fun x y _ _ h1 h2 => List.le_antisymm h1 h2) (List.pairwise_map.2 ha) (List.pairwise_map.2 hb)
  exact strs_eq h1
end Go.Proofs.YtaloidnoeafgiaaGreatDoor
