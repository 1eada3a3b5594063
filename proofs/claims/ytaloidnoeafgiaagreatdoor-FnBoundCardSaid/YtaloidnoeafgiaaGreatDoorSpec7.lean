/- spec.holds, spec.common. -/
import Derived.Test.YtaloidnoeafgiaaGreatDoorSpec5
import Derived.Test.YtaloidnoeafgiaaGreatDoorBoth
import Derived.Test.YtaloidnoeafgiaaGreatDoorZzLv
namespace Go.Proofs.YtaloidnoeafgiaaGreatDoor
open Go.RowKit Go.Lib

theorem take_snoc (ks : List Nat) (i : Nat) (h : i < ks.length) : ks.take (i + 1) = ks.take i ++ [ks.getD i 0] := by
  rw [List.take_succ_eq_append_getElem h]
  simp [List.getD, List.getElem?_eq_getElem h]

theorem comL_snoc (l k : List Nat) (x : Nat) : comL (l ++ [x]) k = comL l k ++ (if x ∈ k then [x] else []) := by
  unfold comL
  rw [List.filter_append]
  by_cases h : x ∈ k <;> simp [h]

set_option maxRecDepth 100000 in
set_option maxHeartbeats 2000000 in
theorem holds_any (bo : Option Addr) (ks : List Nat) (d n : Nat) (w : World) (h : NatsAt w bo ks) (hl : ks.length ≤ 500) :
    Calls Tryz.prog 43 #[.slice bo ks.length d, .int .i64 n] w fun e w' => e = .returned (.bool (decide (n ∈ ks))) ∧ w' = w := by
  have Hn := Lib.hid h
  obtain ⟨L, hL⟩ : ∃ L, L = ks.length := ⟨_, rfl⟩
  have HL := Lib.hid hL
  rw [← hL]
  rw [← hL] at hl
  clear h hL
  go_enter Tryz.func43, Tryz.ntmps43
  go_wp2_with fail
  go_loopg [9] (L + 1) (fun m iv wr => ∃ i : Nat, iv = .int .i64 i ∧ Hid (m + i = L + 1) ∧ Hid (i ≤ L) ∧ Hid (n ∉ ks.take i) ∧ wr = w)
  case atStart => exact ⟨0, rfl, rfl, Nat.zero_le _, (show ¬ _ by simp), rfl⟩
  case round =>
    obtain ⟨i, rfl, hm, hk, hno, rfl⟩ := hrel
    by_cases hkn : i < L
    · obtain ⟨x, rfl, hx, hc⟩ := Hn.out i (by have := HL.out; omega)
      have hlt : decide ((i : Int) < (L : Int)) = true := by simp; omega
      have hp1 : (0 : Int) ≤ (i : Int) := by omega
      have hp2 : (i : Int) < (L : Int) := by omega
      obtain ⟨y, hy⟩ : ∃ y, y = ks.getD i 0 := ⟨_, rfl⟩
      have Ht : Hid (ks.take (i + 1) = ks.take i ++ [y]) := by
        show _ = _
        rw [hy]; exact take_snoc ks i (by have := HL.out; omega)
      have Hy : Hid (y ∈ ks) := by
        show _ ∈ _
        have : y ∈ ks.take (i + 1) := by rw [Ht.out]; simp
        exact List.mem_of_mem_take this
      rw [← hy] at hc
      clear hy
      by_cases hq : y = n
      · subst hq
        have heq : ((y : Int) == (y : Int)) = true := by simp
        go_wp2_with fail
        go_ret
        exact ⟨by show Ending.returned (.bool true) = _; rw [decide_eq_true Hy.out], rfl⟩
      · have heq : ((y : Int) == (n : Int)) = false := by simp; omega
        have Hq := Lib.hid hq
        clear hq
        go_wp2_with fail
        go_roundg (gk - 1)
        case measure => have := hm.out; have := hk.out; omega
        case rel =>
          have e1 := hm.out
          refine ⟨i + 1, by go_num, show _ = _ by omega, show _ ≤ _ by omega, ?_, rfl⟩
          show ¬ _
          rw [Ht.out, List.mem_append, List.mem_singleton]
          rintro (e | e)
          · exact hno.out e
          · exact Hq.out e.symm
    · have hlt : decide ((i : Int) < (L : Int)) = false := by simp; omega
      have Hno : Hid (n ∉ ks) := by
        show ¬ _
        have e : ks.take i = ks := List.take_of_length_le (by have := HL.out; omega)
        have := hno.out
        rwa [e] at this
      go_wp2_with fail
      go_ret
      exact ⟨by show Ending.returned (.bool false) = _; rw [decide_eq_false Hno.out], rfl⟩

set_option maxRecDepth 100000 in
set_option maxHeartbeats 4000000 in
theorem common_any (ao : Option Addr) (ns : List Nat) (c : Nat) (bo : Option Addr) (ks : List Nat) (d : Nat) (w : World) (h : NatsAt w ao ns) (h' : NatsAt w bo ks) (hl : ns.length ≤ 500) (hl' : ks.length ≤ 500) :
    Calls Tryz.prog 25 #[.slice ao ns.length c, .slice bo ks.length d] w fun e w' => ∃ v : Value, e = .returned v ∧ w'.ownsRow w.heap.size 3 1 v (comL ns ks).length (intsV (comL ns ks)) ∧ Below w.heap.size w w' := by
  obtain ⟨i0, hi, hz0, hz1, hz2⟩ := info_parts infoI3
  have Hn := Lib.hid h
  have Hn' := Lib.hid h'
  have Hh := Lib.hid (fun (x : Nat) (W : World) (hb : Below w.heap.size w W) => holds_any bo ks d x W (h'.below hb) hl')
  obtain ⟨L, hL⟩ : ∃ L, L = ns.length := ⟨_, rfl⟩
  have HL := Lib.hid hL
  rw [← hL]
  rw [← hL] at hl
  obtain ⟨M, hM⟩ : ∃ M, M = ks.length := ⟨_, rfl⟩
  rw [← hM]
  rw [← hM] at Hh
  clear h h' hL hM hl'
  go_enter Tryz.func25, Tryz.ntmps25
  go_wp2_with fail
  go_loopg [5, 10] (L + 1) (fun m ov iv wr => ∃ (i : Nat) (l : List Nat), iv = .int .i64 i ∧ Hid (m + i = L + 1) ∧ Hid (i ≤ L) ∧ Hid (l = comL (ns.take i) ks) ∧ wr.ownsRow w.heap.size 3 1 ov l.length (intsV l) ∧ Below w.heap.size w wr)
  case atStart => exact ⟨0, [], rfl, rfl, Nat.zero_le _, (show _ = _ by simp [comL]), World.ownsRow_nil _ _ _ _, Below.refl _ _⟩
  case round =>
    obtain ⟨i, l, rfl, hm, hk, hpre, hown, hbel⟩ := hrel
    have hws := hbel.size
    obtain ⟨ao', cc, rfl⟩ := owns_shape' hown
    by_cases hkn : i < L
    · obtain ⟨x, rfl, hx, hc⟩ := (Hn.out.below hbel) i (by have := HL.out; omega)
      have hlt : decide ((i : Int) < (L : Int)) = true := by simp; omega
      have hp1 : (0 : Int) ≤ (i : Int) := by omega
      have hp2 : (i : Int) < (L : Int) := by omega
      obtain ⟨y, hy⟩ : ∃ y, y = ns.getD i 0 := ⟨_, rfl⟩
      have Ht : Hid (comL (ns.take (i + 1)) ks = l ++ (if y ∈ ks then [y] else [])) := by
        show _ = _
        rw [take_snoc ns i (by have := HL.out; omega), comL_snoc, ← hpre.out, ← hy]
      have hll : l.length ≤ 500 := by
        have h1 := comL_len (ns.take i) ks
        rw [← hpre.out, List.length_take] at h1
        omega
      rw [← hy] at hc
      clear hy
      go_wp2_with fail
      refine (Hh.out y _ hbel).mono ?_
      rintro e w3 ⟨rfl, rfl⟩
      by_cases hin : y ∈ ks
      · have hd : decide (y ∈ ks) = true := decide_eq_true hin
        have Hn2 : Hid (l ++ [y] = comL (ns.take (i + 1)) ks) := by
          show _ = _
          rw [Ht.out, if_pos hin]
        clear hin
        rw [hd]
        go_wp2_with (at_builtin; refine wpList_append_own _ rfl (.tmp 17) (.tmp 19) 22 rfl w.heap.size 3 i0 (.int .i64 0) 1 8 Tryz.underlying22 hi hz0 hz1 hz2 rfl (by decide) _ _ _ rfl (hown.alloc _) ⟨w3.heap.size, 0, none⟩ 1 1 [.int .i64 y] rfl rfl (cell_one_new _ _ _) (one_int _) (by unfold maxLen; omega) (by omega) (by simp; omega) ?_; intro v' w4 hown2 hgrow2 _)
        go_roundg (gk - 1)
        case measure => have := hm.out; have := hk.out; omega
        case rel =>
          have e1 := hm.out
          refine ⟨i + 1, l ++ [y], by go_num, show _ = _ by omega, show _ ≤ _ by omega, Hn2, ?_, (hbel.alloc hws _).grown hgrow2 (by simp; omega) (own_block_ge hown)⟩
          have e : intsV (l ++ [y]) = intsV l ++ [.int .i64 y] := by simp [intsV]
          rw [e, List.length_append]
          exact hown2
      · have hd : decide (y ∈ ks) = false := decide_eq_false hin
        have Hn2 : Hid (l = comL (ns.take (i + 1)) ks) := by
          show _ = _
          rw [Ht.out, if_neg hin, List.append_nil]
        clear hin
        rw [hd]
        go_wp2_with fail
        go_roundg (gk - 1)
        case measure => have := hm.out; have := hk.out; omega
        case rel =>
          have e1 := hm.out
          exact ⟨i + 1, l, by go_num, show _ = _ by omega, show _ ≤ _ by omega, Hn2, hown, hbel⟩
    · have hlt : decide ((i : Int) < (L : Int)) = false := by simp; omega
      have Hl : Hid (l = comL ns ks) := by
        show _ = _
        rw [hpre.out, List.take_of_length_le (by have := HL.out; omega)]
      go_wp2_with fail
      go_ret
      refine ⟨_, rfl, ?_, hbel⟩
      rw [← Hl.out]; exact hown
end Go.Proofs.YtaloidnoeafgiaaGreatDoor
