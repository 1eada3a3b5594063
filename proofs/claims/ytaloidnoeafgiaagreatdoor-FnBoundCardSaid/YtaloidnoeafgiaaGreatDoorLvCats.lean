/- ZZLevels' closure: the categories of a level, growing. -/
import Derived.Test.YtaloidnoeafgiaaGreatDoorRgOut
namespace Go.Proofs.YtaloidnoeafgiaaGreatDoor
open Go.RowKit Go.Lib

def intsV (l : List Nat) : List Value := l.map fun n : Nat => Value.int .i64 (n : Int)

theorem infoI3 : (Tryz.prog.info? 3).map (fun i => (i.zero, i.size, i.bytes)) = some (some (.int .i64 0), 1, 8) := by kernel_rfl
theorem one_int (n : Int) : ∀ v ∈ [Value.int .i64 n], v.oneCell' = true := by simp [Value.oneCell']

/-- the members below i -/
def preL (ns : List Nat) (i : Nat) : List Nat := ns.filter fun x => decide (x < i)
theorem preL_zero (ns : List Nat) : preL ns 0 = [] := by simp [preL]
theorem preL_all (ns : List Nat) (i : Nat) (h : ∀ x ∈ ns, x < i) : preL ns i = ns := List.filter_eq_self.2 fun x hx => by simpa using h x hx
theorem preL_skip (ns : List Nat) (i : Nat) (h : i ∉ ns) : preL ns (i + 1) = preL ns i := by
  unfold preL
  apply List.filter_congr
  intro x hx
  have : x ≠ i := fun e => h (e ▸ hx)
  simp; omega
theorem preL_hit (ns : List Nat) (hg : CL.Gr ns) (i : Nat) (h : i ∈ ns) : preL ns (i + 1) = preL ns i ++ [i] := by
  induction ns with
  | nil => cases h
  | cons a r ih =>
    unfold CL.Gr at hg
    rw [List.pairwise_cons] at hg
    rcases List.mem_cons.1 h with rfl | h'
    · have h1 : preL r (i + 1) = [] := List.filter_eq_nil_iff.2 fun x hx => by have := hg.1 x hx; simp; omega
      have h2 : preL r i = [] := List.filter_eq_nil_iff.2 fun x hx => by have := hg.1 x hx; simp; omega
      show (i :: r).filter _ = (i :: r).filter _ ++ [i]
      rw [List.filter_cons_of_pos (by simp), List.filter_cons_of_neg (by simp)]
      show i :: preL r (i + 1) = preL r i ++ [i]
      rw [h1, h2]; rfl
    · have ha := hg.1 i h'
      show (a :: r).filter _ = (a :: r).filter _ ++ [i]
      rw [List.filter_cons_of_pos (by simp; omega), List.filter_cons_of_pos (by simp; omega)]
      show a :: preL r (i + 1) = a :: preL r i ++ [i]
      rw [ih hg.2 h']; rfl
theorem preL_len (ns : List Nat) (i : Nat) : (preL ns i).length ≤ ns.length := List.length_filter_le _ _

set_option maxRecDepth 100000 in
set_option maxHeartbeats 4000000 in
theorem lvCats_some (lb b B : Nat) (ws : List Nat) (s : Nat) (ns : List Nat) (w : World) (h : w.heap[lb]? = some (.cells #[.pointer (some ⟨b, 0, none⟩), .int .i64 s] 86 (0, 0))) (hw : BigOwn w b B ws) (hg : CL.Gr ns) (hm : ∀ x, CL.tb ws x = true ↔ x ∈ ns) (hl : ns.length ≤ 500) :
    Calls Tryz.prog 48 #[.pointer (some ⟨lb, 0, none⟩)] w fun e w' => ∃ v : Value, e = .returned v ∧ w'.ownsRow w.heap.size 3 1 v ns.length (intsV ns) ∧ Below w.heap.size w w' := by
  obtain ⟨i0, hi, hz0, hz1, hz2⟩ := info_parts infoI3
  have hwl : ws.length ≤ 2000 := by obtain ⟨_, v, _, _, _, h⟩ := hw; exact h
  have Hg := Lib.hid hg
  have Hm := Lib.hid hm
  have Hw := Lib.hid hw
  have Hrow := Lib.hid h
  have c0 := row_cell (l := [.pointer (some ⟨b, 0, none⟩), .int .i64 s]) h (j := 0) rfl
  clear hg hm hw h
  go_enter Tryz.func48, Tryz.ntmps48
  go_wp2_with fail
  go_loopg [3, 4] 128001 (fun m ov iv wr => ∃ (i : Nat) (l : List Nat), iv = .int .i64 i ∧ Hid (m + i = 128001) ∧ i ≤ 128000 ∧ Hid (l = preL ns i) ∧ wr.ownsRow w.heap.size 3 1 ov l.length (intsV l) ∧ Below w.heap.size w wr)
  case atStart => exact ⟨0, [], rfl, rfl, by omega, (preL_zero ns).symm, World.ownsRow_nil _ _ _ _, Below.refl _ _⟩
  case round =>
    obtain ⟨i, l, rfl, hmm, hi0', hpre, hown, hbel⟩ := hrel
    have hws := hbel.size
    have hrw : wr.heap[lb]? = some (.cells #[.pointer (some ⟨b, 0, none⟩), .int .i64 s] 86 (0, 0)) := by
      rw [hbel.block lb (Array.getElem?_eq_some_iff.1 Hrow.out).1]; exact Hrow.out
    have d0 := row_cell (l := [.pointer (some ⟨b, 0, none⟩), .int .i64 s]) hrw (j := 0) rfl
    have Hbw : Hid (BigOwn wr b B ws) := Hw.out.below hbel
    have hll : l.length ≤ 500 := by rw [hpre.out]; exact Nat.le_trans (preL_len ns i) hl
    obtain ⟨ao, cc, rfl⟩ := owns_shape' hown
    clear hrw
    go_wp2_with fail
    refine (big_bitLen _ b B ws Hbw.out).mono ?_
    rintro e w2 ⟨m, rfl, hbl, rfl⟩
    have hbl3 := hbl.2.2
    have Hbl : Hid (CL.BL ws m) := hbl
    clear hbl
    by_cases him : i < m
    · have hlt : decide ((i : Int) < (m : Int)) = true := by simp; omega
      go_wp2_with fail
      refine (big_bit _ b B ws Hbw.out i _ rfl (by omega)).mono ?_
      rintro e w3 ⟨rfl, rfl⟩
      by_cases hbit : CL.tb ws i = true
      · have hin := (Hm.out i).1 hbit
        have Hn : Hid (l ++ [i] = preL ns (i + 1)) := by
          show _ = _
          rw [preL_hit ns Hg.out i hin, hpre.out]
        rw [bitI_true hbit]
        clear hbit hin
        go_wp2_with (at_builtin; refine wpList_append_own _ rfl (.tmp 26) (.tmp 28) 22 rfl w.heap.size 3 i0 (.int .i64 0) 1 8 Tryz.underlying22 hi hz0 hz1 hz2 rfl (by decide) _ _ _ rfl (hown.alloc _) ⟨w3.heap.size, 0, none⟩ 1 1 [.int .i64 i] rfl rfl (cell_one_new _ _ _) (one_int _) (by unfold maxLen; omega) (by omega) (by simp; omega) ?_; intro v' w4 hown2 hgrow2 _)
        go_roundg (gk - 1)
        case measure => have := hmm.out; omega
        case rel =>
          have e1 := hmm.out
          refine ⟨i + 1, l ++ [i], by go_num, show _ = _ by omega, by omega, Hn, ?_, (hbel.alloc hws _).grown hgrow2 (by simp; omega) (own_block_ge hown)⟩
          have e : intsV (l ++ [i]) = intsV l ++ [.int .i64 i] := by simp [intsV]
          rw [e, List.length_append]
          exact hown2
      · have hin : i ∉ ns := fun e => hbit ((Hm.out i).2 e)
        have Hn : Hid (l = preL ns (i + 1)) := by
          show _ = _
          rw [preL_skip ns i hin, hpre.out]
        rw [bitI_false (by simpa using hbit)]
        clear hbit hin
        go_wp2_with fail
        go_roundg (gk - 1)
        case measure => have := hmm.out; omega
        case rel =>
          have e1 := hmm.out
          exact ⟨i + 1, l, by go_num, show _ = _ by omega, by omega, Hn, hown, hbel⟩
    · have hlt : decide ((i : Int) < (m : Int)) = false := by simp; omega
      have Hl : Hid (l = ns) := by
        show _ = _
        rw [hpre.out]
        refine preL_all ns i fun x hx => ?_
        by_cases hxm : x < m
        · omega
        · have h1 := Hbl.out.1 x (by omega)
          rw [(Hm.out x).2 hx] at h1; cases h1
      clear Hbl
      go_wp2_with fail
      go_ret
      refine ⟨_, rfl, ?_, hbel⟩
      rw [← Hl.out]; exact hown

set_option maxRecDepth 100000 in
theorem lvCats_none (lb : Nat) (s : Nat) (w : World) (h : w.heap[lb]? = some (.cells #[.pointer none, .int .i64 s] 86 (0, 0))) :
    Calls Tryz.prog 48 #[.pointer (some ⟨lb, 0, none⟩)] w fun e w' => e = .returned (.slice none 0 0) ∧ w' = w := by
  have c0 := row_cell (l := [.pointer none, .int .i64 s]) h (j := 0) rfl
  clear h
  go_enter Tryz.func48, Tryz.ntmps48
  go_wp2
  go_ret
  exact ⟨rfl, rfl⟩

theorem lvCats_any (lb : Nat) (a : Lvd) (ns : List Nat) (w : World) (h : LvAt' w lb a) (ha : Mem a ns) (hl : ns.length ≤ 500) :
    Calls Tryz.prog 48 #[.pointer (some ⟨lb, 0, none⟩)] w fun e w' => ∃ v : Value, e = .returned v ∧ w'.ownsRow w.heap.size 3 1 v ns.length (intsV ns) ∧ Below w.heap.size w w' := by
  rcases h with ⟨h1, h2, h3⟩ | ⟨h1, b, B, ws, h2, h3, h4⟩
  · have el : ns = [] := List.eq_nil_iff_forall_not_mem.2 fun x hx => h3 x ((ha.2 x).2 hx)
    subst el
    refine (lvCats_none lb _ w h2).mono ?_
    rintro e w' ⟨rfl, rfl⟩
    exact ⟨_, rfl, World.ownsRow_nil _ _ _ _, Below.refl _ _⟩
  · exact lvCats_some lb b B ws _ ns w h2 h3 ha.1 (fun x => (h4 x).trans (ha.2 x)) hl
end Go.Proofs.YtaloidnoeafgiaaGreatDoor
