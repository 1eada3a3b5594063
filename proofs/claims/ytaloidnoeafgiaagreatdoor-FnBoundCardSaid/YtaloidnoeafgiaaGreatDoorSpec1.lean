/- spec: what a list of categories is, zzFits, Proper, span. -/
import Derived.Test.YtaloidnoeafgiaaGreatDoorDec
namespace Go.Proofs.YtaloidnoeafgiaaGreatDoor
open Go.RowKit Go.Lib

/-- the whole numbers that a slice holds -/
def IntsAt (w : World) (ao : Option Addr) (l : List Int) : Prop := ∀ i, i < l.length → ∃ x : Addr, ao = some x ∧ x.block < w.heap.size ∧ w.cell? (x.add i) = some (.int .i64 (l.getD i 0))

theorem add_block (x : Addr) (i : Nat) : (x.add i).block = x.block := by unfold Addr.add; split <;> rfl

theorem IntsAt.below {w w' : World} {ao : Option Addr} {l : List Int} (h : IntsAt w ao l) (hb : Below w.heap.size w w') : IntsAt w' ao l := by
  intro i hi
  obtain ⟨x, h1, h2, h3⟩ := h i hi
  refine ⟨x, h1, Nat.lt_of_lt_of_le h2 hb.size, ?_⟩
  rw [hb.cell (by rw [add_block]; exact h2)]
  exact h3

set_option maxRecDepth 100000 in
theorem fits2 (s : Int) (ao : Option Addr) (n c : Nat) (w : World) :
    Calls Tryz.prog 21 #[.agg #[.int .i64 s, .slice ao n c]] w fun e w' => e = .returned (.bool (decide (n ≤ 2147483647))) ∧ Below w.heap.size w w' := by
  by_cases h : n ≤ 2147483647
  · have h1 : decide ((n : Int) > 2147483647) = false := by simp; omega
    go_enter Tryz.func21, Tryz.ntmps21
    go_wp2
    go_ret
    exact ⟨by simp [h], (Below.refl _ _).alloc (Nat.le_refl _) _⟩
  · have h1 : decide ((n : Int) > 2147483647) = true := by simp; omega
    go_enter Tryz.func21, Tryz.ntmps21
    go_wp2
    go_ret
    exact ⟨by simp [h], (Below.refl _ _).alloc (Nat.le_refl _) _⟩

set_option maxRecDepth 100000 in
theorem fits1 (s : Int) (ao : Option Addr) (n c : Nat) (s' : Int) (ao' : Option Addr) (n' c' : Nat) (w : World) :
    Calls Tryz.prog 6 #[.agg #[.int .i64 s, .slice ao n c, .int .i64 s', .slice ao' n' c']] w fun e w' => e = .returned (.bool (decide (n ≤ 2147483647 ∧ n' ≤ 2147483647))) ∧ Below w.heap.size w w' := by
  have h0 : Hid (Below w.heap.size w (w.alloc (.cells #[.int .i64 s, .slice ao n c, .int .i64 s', .slice ao' n' c'] 26))) := (Below.refl _ _).alloc (Nat.le_refl _) _
  go_enter Tryz.func6, Tryz.ntmps6
  go_wp2_with fail
  refine (fits2 _ _ _ _ _).mono ?_
  rintro e w2 ⟨rfl, hb⟩
  have hbx : w2.heap[w.heap.size]? = some (.cells #[.int .i64 s, .slice ao n c, .int .i64 s', .slice ao' n' c'] 26 (0, 0)) := by
    rw [hb.block w.heap.size (by simp)]; exact heap_alloc_new _ _
  have c2 := row_cell (l := [.int .i64 s, .slice ao n c, .int .i64 s', .slice ao' n' c']) hbx (j := 2) rfl
  have c3 := row_cell (l := [.int .i64 s, .slice ao n c, .int .i64 s', .slice ao' n' c']) hbx (j := 3) rfl
  have Hb : Hid (Below w.heap.size w w2) := h0.out.trans (hb.mono (by simp))
  clear hbx hb
  by_cases hn : n ≤ 2147483647
  · have h1 : decide (n ≤ 2147483647) = true := by simp; omega
    rw [h1]
    go_wp2_with fail
    refine (fits2 _ _ _ _ _).mono ?_
    rintro e w3 ⟨rfl, hb3⟩
    by_cases hn' : n' ≤ 2147483647
    · have h2 : decide (n' ≤ 2147483647) = true := by simp; omega
      rw [h2]
      go_wp2
      go_ret
      exact ⟨by simp [hn, hn'], Hb.out.trans (hb3.mono Hb.out.size)⟩
    · have h2 : decide (n' ≤ 2147483647) = false := by simp; omega
      rw [h2]
      go_wp2
      go_ret
      exact ⟨by simp [hn'], Hb.out.trans (hb3.mono Hb.out.size)⟩
  · have h1 : decide (n ≤ 2147483647) = false := by simp; omega
    rw [h1]
    go_wp2
    go_ret
    exact ⟨by simp [hn], Hb.out⟩

/-- from number k on the list grows, behind v, below 10000 -/
def GrowsOn (v : Int) : List Int → Prop
  | [] => True
  | c :: r => v < c ∧ c ≤ 9999 ∧ GrowsOn c r
def ProperL (s : Int) (l : List Int) : Prop := 0 ≤ s ∧ s ≤ 9999 ∧ l.length ≤ 500 ∧ GrowsOn (-1) l

/-- the call tells whether a proposition holds -/
def Told (e : Ending) (p : Prop) : Prop := ∃ r : Bool, e = .returned (.bool r) ∧ (r = true ↔ p)
theorem Told.t {p : Prop} (h : p) : Told (.returned (.bool true)) p := ⟨true, rfl, fun _ => h, fun _ => rfl⟩
theorem Told.f {p : Prop} (h : ¬ p) : Told (.returned (.bool false)) p := ⟨false, rfl, fun e => (by cases e), fun e => absurd e h⟩

theorem drop_cons (l : List Int) (k : Nat) (h : k < l.length) : l.drop k = l.getD k 0 :: l.drop (k + 1) := by
  rw [List.drop_eq_getElem_cons h]
  simp [List.getD, List.getElem?_eq_getElem h]

set_option maxRecDepth 100000 in
set_option maxHeartbeats 2000000 in
theorem proper_loop (s : Int) (ao : Option Addr) (l : List Int) (c : Nat) (w : World) (h : IntsAt w ao l) (hs0 : ¬ s < 0) (hs1 : ¬ s > 9999) (hl : l.length ≤ 500) :
    Calls Tryz.prog 22 #[.agg #[.int .i64 s, .slice ao l.length c]] w fun e w' => Told e (GrowsOn (-1) l) ∧ Below w.heap.size w w' := by
  have h1 : decide (s < 0) = false := by simp; omega
  have h2 : decide (s > 9999) = false := by simp; omega
  have h3 : decide ((l.length : Int) > 500) = false := by simp; omega
  have Hl : Hid (IntsAt (w.alloc (.cells #[.int .i64 s, .slice ao l.length c] 24)) ao l) := h.below ((Below.refl _ _).alloc (Nat.le_refl _) _)
  have Hb : Hid (Below w.heap.size w (w.alloc (.cells #[.int .i64 s, .slice ao l.length c] 24))) := (Below.refl _ _).alloc (Nat.le_refl _) _
  clear h
  go_enter Tryz.func22, Tryz.ntmps22
  go_wp2_with fail
  go_loopg [23, 3] (l.length + 1) (fun m iv vv wr => ∃ (k : Nat) (v : Int), iv = .int .i64 k ∧ vv = .int .i64 v ∧ Hid (m + k = l.length + 1) ∧ Hid (k ≤ l.length) ∧ Hid (GrowsOn (-1) l ↔ GrowsOn v (l.drop k)) ∧ wr = w.alloc (.cells #[.int .i64 s, .slice ao l.length c] 24))
  case atStart => exact ⟨0, -1, rfl, rfl, rfl, Nat.zero_le _, Iff.rfl, rfl⟩
  case round =>
    obtain ⟨k, v, rfl, rfl, hm, hk, hg, rfl⟩ := hrel
    by_cases hkn : k < l.length
    · obtain ⟨x, rfl, hx, hc⟩ := Hl.out k hkn
      have hlt : decide ((k : Int) < (l.length : Int)) = true := by simp; omega
      obtain ⟨y, hy⟩ : ∃ y, y = l.getD k 0 := ⟨_, rfl⟩
      have hg2 : Hid (GrowsOn (-1) l ↔ (v < y ∧ y ≤ 9999 ∧ GrowsOn y (l.drop (k + 1)))) := by
        show _ ↔ _
        rw [hg.out, drop_cons l k hkn, ← hy]; rfl
      rw [← hy] at hc
      clear hy
      by_cases hyv : y ≤ v
      · have ht1 : decide (y ≤ v) = true := by simp; omega
        go_wp2_with fail
        go_ret
        exact ⟨Told.f (fun e => by have := hg2.out.1 e; omega), Hb.out⟩
      · have ht1 : decide (y ≤ v) = false := by simp; omega
        by_cases hy9 : y > 9999
        · have ht2 : decide (y > 9999) = true := by simp; omega
          go_wp2_with fail
          go_ret
          exact ⟨Told.f (fun e => by have := hg2.out.1 e; omega), Hb.out⟩
        · have ht2 : decide (y > 9999) = false := by simp; omega
          go_wp2_with fail
          go_roundg (gk - 1)
          case measure => have := hm.out; have := hk.out; omega
          case rel =>
            have e1 := hm.out
            refine ⟨k + 1, y, by go_num, rfl, show _ = _ by omega, show _ ≤ _ by omega, ?_, rfl⟩
            show _ ↔ _
            rw [hg2.out]
            exact ⟨fun e => e.2.2, fun e => ⟨by omega, by omega, e⟩⟩
    · have hlt : decide ((k : Int) < (l.length : Int)) = false := by simp; omega
      have hk0 := hk.out
      go_wp2_with fail
      go_ret
      exact ⟨Told.t (by rw [hg.out, List.drop_eq_nil_of_le (by omega)]; trivial), Hb.out⟩
end Go.Proofs.YtaloidnoeafgiaaGreatDoor
