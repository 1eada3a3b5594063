/- the options as arguments: zzFits4, zzFits5, zzFits3; spec.Option: Proper, Text. -/
import Derived.Test.YtaloidnoeafgiaaDoorInit2
namespace Go.Proofs.YtaloidnoeafgiaaDoor
open Go.RowKit Go.Lib

/-- an option's value -/
abbrev optV (k w : ByteArray) : Value := .agg #[.string k, .string w]

/-- options in a row of an argument -/
def OptsAt (w : World) (ao : Option Addr) (os : List (ByteArray × ByteArray)) : Prop :=
  ∀ i, i < os.length → ∃ x, ao = some x ∧ x.block < w.heap.size ∧ w.cell? (x.add (i * 2)) = some (.string (os.getD i (kD, kD)).1) ∧ w.cell? ⟨(x.add (i * 2)).block, (x.add (i * 2)).off + 1, none⟩ = some (.string (os.getD i (kD, kD)).2)

theorem add_block' (x : Addr) (n : Nat) : (x.add n).block = x.block := by unfold Addr.add; split <;> rfl

theorem add_next (x : Addr) (n : Nat) : (⟨(x.add n).block, (x.add n).off + 1, none⟩ : Addr) = x.add (n + 1) := by
  unfold Addr.add
  rw [if_neg (Nat.succ_ne_zero n)]
  split
  · rename_i h; subst h; rfl
  · rfl

theorem OptsAt.below {w w' : World} {ao : Option Addr} {os : List (ByteArray × ByteArray)} (h : OptsAt w ao os) (hb : Below w.heap.size w w') : OptsAt w' ao os := by
  intro i hi
  obtain ⟨x, h1, h2, h3, h4⟩ := h i hi
  exact ⟨x, h1, Nat.lt_of_lt_of_le h2 hb.size, (hb.cell (by rw [add_block']; exact h2)).trans h3, (hb.cell (p := ⟨(x.add (i * 2)).block, (x.add (i * 2)).off + 1, none⟩) (by show (x.add (i * 2)).block < _; rw [add_block']; exact h2)).trans h4⟩

theorem fits3_any (u r t l : ByteArray) (w : World) :
    Calls Tryd.prog 26 #[labV u r t l] w fun e w' => e = .returned (.bool (decide (u.size ≤ 2147483647 ∧ r.size ≤ 2147483647 ∧ t.size ≤ 2147483647 ∧ l.size ≤ 2147483647))) ∧ Below w.heap.size w w' := by
  have hx := heap_alloc_new w (.cells #[.string u, .string r, .string t, .string l] 41)
  have c0 := row_cell (l := [.string u, .string r, .string t, .string l]) hx (j := 0) rfl
  have c1 := row_cell (l := [.string u, .string r, .string t, .string l]) hx (j := 1) rfl
  have c2 := row_cell (l := [.string u, .string r, .string t, .string l]) hx (j := 2) rfl
  have c3 := row_cell (l := [.string u, .string r, .string t, .string l]) hx (j := 3) rfl
  have HB : Hid (Below w.heap.size w (w.alloc (.cells #[.string u, .string r, .string t, .string l] 41))) := (Below.refl _ _).alloc (Nat.le_refl _) _
  clear hx
  have ret : ∀ b : Bool, (b = decide (u.size ≤ 2147483647 ∧ r.size ≤ 2147483647 ∧ t.size ≤ 2147483647 ∧ l.size ≤ 2147483647)) → Ending.returned (.bool b) = Ending.returned (.bool (decide (u.size ≤ 2147483647 ∧ r.size ≤ 2147483647 ∧ t.size ≤ 2147483647 ∧ l.size ≤ 2147483647))) := fun b h => by rw [h]
  have Ret := Lib.hid ret
  clear ret
  go_enter Tryd.func26, Tryd.ntmps26
  go_wp2_with fail
  all_goals
    go_ret
    exact ⟨Ret.out _ (by first | (symm; apply decide_eq_true; omega) | (symm; apply decide_eq_false; omega)), HB.out⟩

theorem fits5_any (k d : ByteArray) (w : World) :
    Calls Tryd.prog 54 #[optV k d] w fun e w' => e = .returned (.bool (decide (k.size ≤ 2147483647 ∧ d.size ≤ 2147483647))) ∧ Below w.heap.size w w' := by
  have hx := heap_alloc_new w (.cells #[.string k, .string d] 44)
  have c0 := row_cell (l := [.string k, .string d]) hx (j := 0) rfl
  have c1 := row_cell (l := [.string k, .string d]) hx (j := 1) rfl
  have HB : Hid (Below w.heap.size w (w.alloc (.cells #[.string k, .string d] 44))) := (Below.refl _ _).alloc (Nat.le_refl _) _
  clear hx
  have ret : ∀ b : Bool, (b = decide (k.size ≤ 2147483647 ∧ d.size ≤ 2147483647)) → Ending.returned (.bool b) = Ending.returned (.bool (decide (k.size ≤ 2147483647 ∧ d.size ≤ 2147483647))) := fun b h => by rw [h]
  have Ret := Lib.hid ret
  clear ret
  go_enter Tryd.func54, Tryd.ntmps54
  go_wp2_with fail
  all_goals
    go_ret
    exact ⟨Ret.out _ (by first | (symm; apply decide_eq_true; omega) | (symm; apply decide_eq_false; omega)), HB.out⟩

/-- an answer on whether all options fit -/
def FitsR (e : Ending) (os : List (ByteArray × ByteArray)) : Prop := ∃ b : Bool, e = .returned (.bool b) ∧ (b = true → ∀ j, j < os.length → (os.getD j (kD, kD)).1.size ≤ 2147483647 ∧ (os.getD j (kD, kD)).2.size ≤ 2147483647)
theorem FitsR.no {os : List (ByteArray × ByteArray)} : FitsR (.returned (.bool false)) os := ⟨false, rfl, fun e => by cases e⟩

set_option maxRecDepth 100000 in
set_option maxHeartbeats 2000000 in
/-- whether the options fit: some answer; where it is yes, each does -/
theorem fits4_any (ao : Option Addr) (os : List (ByteArray × ByteArray)) (c : Nat) (w : World) (h : OptsAt w ao os) (hl : os.length ≤ 9223372036854775807) :
    Calls Tryd.prog 32 #[.slice ao os.length c] w fun e w' => FitsR e os ∧ Below w.heap.size w w' := by
  obtain ⟨n, hn⟩ : ∃ n, n = os.length := ⟨_, rfl⟩
  have HN : Hid (n = os.length) := hn
  have H := Lib.hid h
  rw [← hn] at hl ⊢
  clear hn h
  go_enter Tryd.func32, Tryd.ntmps32
  by_cases hbig : n ≤ 2147483647
  · have hd : decide ((n : Int) > 2147483647) = false := decide_eq_false (by omega)
    go_wp2_with fail
    go_loopg [10] n (fun mc iv wr => ∃ i : Nat, iv = .int .i64 i ∧ Hid (mc + i = n) ∧ i ≤ n ∧ Hid (∀ j, j < i → (os.getD j (kD, kD)).1.size ≤ 2147483647 ∧ (os.getD j (kD, kD)).2.size ≤ 2147483647) ∧ Hid (Below w.heap.size w wr))
    case atStart => exact ⟨0, rfl, rfl, Nat.zero_le _, fun j hj => absurd hj (Nat.not_lt_zero j), Below.refl _ _⟩
    case round =>
      obtain ⟨i, rfl, hmc, hi, hdone, hbel⟩ := hrel
      by_cases hin : i < n
      · have hlt : decide ((i : Int) < (n : Int)) = true := decide_eq_true (by omega)
        have i0 : (0 : Int) ≤ (i : Int) := by omega
        have i1 : (i : Int) < (n : Int) := by omega
        obtain ⟨x, rfl, hx, c0, c1⟩ := (H.out.below hbel.out) i (by have := HN.out; omega)
        obtain ⟨⟨k, d⟩, ho⟩ : ∃ o, o = os.getD i (kD, kD) := ⟨_, rfl⟩
        rw [← ho] at c0 c1
        have HO : Hid ((k, d) = os.getD i (kD, kD)) := ho
        simp only at c0 c1
        clear ho
        go_wp2_with fail
        refine (fits5_any k d _).mono ?_
        rintro e w3 ⟨rfl, hb3⟩
        have hbel := Lib.hid ((hbel.out.alloc hbel.out.size _).trans (hb3.mono (by simp; have := hbel.out.size; omega)))
        clear hb3
        by_cases hf : k.size ≤ 2147483647 ∧ d.size ≤ 2147483647
        · have hf2 : decide (k.size ≤ 2147483647 ∧ d.size ≤ 2147483647) = true := decide_eq_true hf
          have Hf := Lib.hid hf
          clear hf
          rw [hf2]
          go_wp2_with fail
          go_roundg (gk - 1)
          case measure => have := hmc.out; omega
          case rel =>
            have := hmc.out
            refine ⟨i + 1, by go_num, show _ = _ by omega, by omega, ?_, hbel⟩
            intro j hj
            by_cases hji : j = i
            · rw [hji, ← HO.out]; exact Hf.out
            · exact hdone.out j (by omega)
        · have hf2 : decide (k.size ≤ 2147483647 ∧ d.size ≤ 2147483647) = false := decide_eq_false hf
          clear hf
          rw [hf2]
          go_wp2_with fail
          go_ret
          exact ⟨FitsR.no, hbel.out⟩
      · obtain rfl : i = n := by omega
        have hlt : decide ((i : Int) < (i : Int)) = false := by simp
        go_wp2_with fail
        go_ret
        exact ⟨⟨true, rfl, fun _ j hj => hdone.out j (by have := HN.out; omega)⟩, hbel.out⟩
  · have hd : decide ((n : Int) > 2147483647) = true := decide_eq_true (by omega)
    go_wp2_with fail
    go_ret
    exact ⟨FitsR.no, Below.refl _ _⟩

/-- whether an option is one -/
def optB (k d : ByteArray) : Bool :=
  if k = kD then decide (d.size = 0) else if k = kL then wordB d || (decide (0 < d.size) && labB ⟨#[97]⟩ ⟨#[97]⟩ ⟨#[97]⟩ d) else if k = kR ∨ k = kT ∨ k = kF ∨ k = kU then wordB d else false

theorem size0 {d : ByteArray} (h : d.size = 0) : d = ⟨#[]⟩ := bytes_ext (List.eq_nil_of_length_eq_zero (by rw [← Lib.size_eq]; exact h))

theorem lit_ne {a b : ByteArray} (h : a ≠ b) : (a.toList == b.data.toList) = false := by
  rw [ByteArray.toList_eq]
  have h1 : a.data.toList ≠ b.data.toList := fun e => h (bytes_ext e)
  simpa using h1

set_option maxRecDepth 100000 in
set_option maxHeartbeats 4000000 in
theorem option_proper (k d : ByteArray) (hd : d.size ≤ 2147483647) (w : World) :
    Calls Tryd.prog 28 #[optV k d] w fun e w' => e = .returned (.bool (optB k d)) ∧ Below w.heap.size w w' := by
  have hx := heap_alloc_new w (.cells #[.string k, .string d] 44)
  have c0 := row_cell (l := [.string k, .string d]) hx (j := 0) rfl
  have c1 := row_cell (l := [.string k, .string d]) hx (j := 1) rfl
  have HB : Hid (Below w.heap.size w (w.alloc (.cells #[.string k, .string d] 44))) := (Below.refl _ _).alloc (Nat.le_refl _) _
  have Hw := Lib.hid (word_any d (by omega))
  have Hl := Lib.hid (label_proper ⟨#[97]⟩ ⟨#[97]⟩ ⟨#[97]⟩ d ⟨by decide, by decide, by decide, by omega⟩)
  clear hx
  by_cases h1 : k = kD
  · subst h1
    by_cases h2 : d.size = 0
    · obtain rfl := size0 h2
      go_enter Tryd.func28, Tryd.ntmps28
      go_wp2_with fail
      go_ret
      exact ⟨rfl, HB.out⟩
    · have h3 := (str_some d (fun e => h2 (by rw [Lib.size_eq, e]; rfl))).1
      have HO : Hid (optB kD d = false) := by show _ = _; simp [optB, h2]
      clear h2
      go_enter Tryd.func28, Tryd.ntmps28
      go_wp2_with fail
      go_ret
      exact ⟨show Ending.returned (.bool false) = _ by rw [HO.out], HB.out⟩
  · by_cases h2 : k = kL
    · subst h2
      have HO : Hid (optB kL d = (wordB d || (decide (0 < d.size) && labB ⟨#[97]⟩ ⟨#[97]⟩ ⟨#[97]⟩ d))) := by show _ = _; simp [optB]
      clear h1
      go_enter Tryd.func28, Tryd.ntmps28
      go_wp2_with fail
      refine (Hw.out _).mono ?_
      rintro e w2 ⟨rfl, rfl⟩
      cases hwb : wordB d
      · have HO : Hid (optB kL d = (decide (0 < d.size) && labB ⟨#[97]⟩ ⟨#[97]⟩ ⟨#[97]⟩ d)) := by show _ = _; rw [HO.out, hwb]; rfl
        clear hwb
        by_cases h0 : d.size = 0
        · have hg : decide ((d.size : Int) > 0) = false := decide_eq_false (by omega)
          have HO : Hid (optB kL d = false) := by show _ = _; rw [HO.out, h0]; rfl
          have hg2 : ¬ 0 < d.size := by omega
          clear h0
          go_wp2_with fail
          go_ret
          exact ⟨show Ending.returned (.bool false) = _ by rw [HO.out], HB.out⟩
        · have hg : decide ((d.size : Int) > 0) = true := decide_eq_true (by omega)
          have HO : Hid (optB kL d = labB ⟨#[97]⟩ ⟨#[97]⟩ ⟨#[97]⟩ d) := by show _ = _; rw [HO.out]; simp; omega
          have hg2 : 0 < d.size := by omega
          clear h0
          go_wp2_with fail
          refine (Hl.out _).mono ?_
          rintro e w3 ⟨rfl, hb3⟩
          have HB := Lib.hid (HB.out.trans (hb3.mono (by simp)))
          clear hb3
          go_wp2_with fail
          go_ret
          exact ⟨show Ending.returned (.bool (labB ⟨#[97]⟩ ⟨#[97]⟩ ⟨#[97]⟩ d)) = _ by rw [HO.out], HB.out⟩
      · have HO : Hid (optB kL d = true) := by show _ = _; rw [HO.out, hwb]; rfl
        clear hwb
        go_wp2_with fail
        go_ret
        exact ⟨show Ending.returned (.bool true) = _ by rw [HO.out], HB.out⟩
    · have e1 := lit_ne h1
      have e2 := lit_ne h2
      by_cases h3 : k = kR ∨ k = kT ∨ k = kF ∨ k = kU
      · have HO : Hid (optB k d = wordB d) := by show _ = _; simp only [optB]; rw [if_neg h1, if_neg h2, if_pos h3]
        clear e1 e2 h1 h2
        rcases h3 with rfl | rfl | rfl | rfl
        all_goals
          go_enter Tryd.func28, Tryd.ntmps28
          go_wp2_with fail
          refine (Hw.out _).mono ?_
          rintro e w2 ⟨rfl, rfl⟩
          go_wp2_with fail
          go_ret
          exact ⟨show Ending.returned (.bool (wordB d)) = _ by rw [HO.out], HB.out⟩
      · have HO : Hid (optB k d = false) := by show _ = _; simp only [optB]; rw [if_neg h1, if_neg h2, if_neg h3]
        have e3 := lit_ne (fun e => h3 (Or.inl e))
        have e4 := lit_ne (fun e => h3 (Or.inr (Or.inl e)))
        have e5 := lit_ne (fun e => h3 (Or.inr (Or.inr (Or.inl e))))
        have e6 := lit_ne (fun e => h3 (Or.inr (Or.inr (Or.inr e))))
        clear h1 h2 h3
        go_enter Tryd.func28, Tryd.ntmps28
        go_wp2_with fail
        go_ret
        exact ⟨show Ending.returned (.bool false) = _ by rw [HO.out], HB.out⟩

set_option maxRecDepth 100000 in
set_option maxHeartbeats 2000000 in
theorem option_text (k d : ByteArray) (hk : k.size ≤ 2147483647) (hd : d.size ≤ 2147483647) (w : World) :
    Calls Tryd.prog 33 #[optV k d] w fun e w' => ∃ s : ByteArray, e = .returned (.string s) ∧ Hid (s.data.toList = optT (k, d)) ∧ Below w.heap.size w w' := by
  have hx := heap_alloc_new w (.cells #[.string k, .string d] 44)
  have c0 := row_cell (l := [.string k, .string d]) hx (j := 0) rfl
  have c1 := row_cell (l := [.string k, .string d]) hx (j := 1) rfl
  have HB : Hid (Below w.heap.size w (w.alloc (.cells #[.string k, .string d] 44))) := (Below.refl _ _).alloc (Nat.le_refl _) _
  clear hx
  by_cases h1 : k = kD
  · subst h1
    go_enter Tryd.func33, Tryd.ntmps33
    go_wp2_with fail
    go_ret
    exact ⟨_, rfl, (by show _ = _; simp [optT]), HB.out⟩
  · have e1 := lit_ne h1
    have HO : Hid (optT (k, d) = k.data.toList ++ 58 :: d.data.toList) := by show _ = _; rw [optT, if_neg h1]
    clear h1
    go_enter Tryd.func33, Tryd.ntmps33
    go_wp2_with fail
    go_ret
    exact ⟨_, rfl, (by show _ = _; rw [HO.out]; simp [app_bytes]), HB.out⟩
end Go.Proofs.YtaloidnoeafgiaaDoor
