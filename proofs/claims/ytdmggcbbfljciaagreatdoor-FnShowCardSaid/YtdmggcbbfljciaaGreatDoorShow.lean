/- impl.Show: the text of a mapping with an address and a port of the host. -/
import Derived.Test.YtdmggcbbfljciaaGreatDoorPubE
import Derived.Laws.Pointers
namespace Go.Proofs.YtdmggcbbfljciaaGreatDoor
open Go.RowKit Go.Lib

theorem six_cut (l : List UInt8) (h : sixL l) : ∃ a b, l = a ++ 58 :: b ∧ (58 : UInt8) ∉ a := by
  revert l
  exact six_cases ⟨[], [58, 49], rfl, by decide⟩ ⟨[], [58], rfl, by decide⟩ ⟨[50, 48, 48, 49], [100, 98, 56, 58, 58, 49], rfl, by decide⟩ ⟨[102, 101, 56, 48], [58, 97], rfl, by decide⟩

theorem f4_no58 {l : List UInt8} (h : F4.Is l) : (58 : UInt8) ∉ l := by
  intro e
  obtain ⟨j, hj, hx⟩ := List.getElem_of_mem e
  have e2 : l.getD j 0 = 58 := by rw [List.getD, List.getElem?_eq_getElem hj, Option.getD_some]; exact hx
  rcases h.byte j hj with h1 | ⟨h1, h2⟩
  · rw [e2] at h1; exact absurd h1 (by decide)
  · rw [e2] at h2; exact absurd h2 (by decide)

set_option maxRecDepth 100000 in
set_option maxHeartbeats 4000000 in
theorem joinHP (p : Pub) (hp : p.Ok) (r : List UInt8) (hr : r.length ≤ 400000) (w : World) :
    Calls Tryz.prog 48 #[.string (tx p.ip), .string (tx r)] w fun e w' => e = .returned (.string (tx (p.ipT ++ 58 :: r))) ∧ Below w.heap.size w w' := by
  have hil := (Pub.ip_len hp).1
  have zi : (tx p.ip).size ≤ 15 := by rw [tx_size]; exact hil
  have zr : (tx r).size ≤ 400000 := by rw [tx_size]; exact hr
  by_cases h6 : sixL p.ip
  · obtain ⟨a, b, he, hn⟩ := six_cut _ h6
    have Hc := Lib.hid (contains_hit (tx p.ip) 58 a b he hn (by omega))
    have e1 : (⟨#[91]⟩ : ByteArray) ++ tx p.ip ++ (⟨#[93, 58]⟩ : ByteArray) ++ tx r = tx (p.ipT ++ 58 :: r) := by
      apply tx_of
      rw [app_bytes, app_bytes, app_bytes, tx_list, tx_list]
      unfold Pub.ipT
      rw [if_pos h6]; simp
    have HE := Lib.hid e1
    clear h6 he hn e1 hil hp hr
    go_enter Tryz.func48, Tryz.ntmps48
    go_wp2_with fail
    refine (Hc.out _).mono ?_
    rintro e w2 ⟨rfl, rfl⟩
    go_wp2_with fail
    go_ret
    exact ⟨by rw [← HE.out]; rfl, Below.refl _ _⟩
  · have hno : (58 : UInt8) ∉ p.ip := by
      rcases hp.ip with h | h | h
      · rw [h]; simp
      · exact f4_no58 h
      · exact absurd h h6
    have Hc := Lib.hid (contains_miss (tx p.ip) 58 (by rw [tx_list]; exact hno) (by omega))
    have e1 : tx p.ip ++ (⟨#[58]⟩ : ByteArray) ++ tx r = tx (p.ipT ++ 58 :: r) := by
      apply tx_of
      rw [app_bytes, app_bytes, tx_list, tx_list]
      unfold Pub.ipT
      rw [if_neg h6]; simp
    have HE := Lib.hid e1
    clear h6 hno e1 hil hp hr
    go_enter Tryz.func48, Tryz.ntmps48
    go_wp2_with fail
    refine (Hc.out _).mono ?_
    rintro e w2 ⟨rfl, rfl⟩
    go_wp2_with fail
    go_ret
    exact ⟨by rw [← HE.out]; rfl, Below.refl _ _⟩

set_option maxRecDepth 100000 in
set_option maxHeartbeats 4000000 in
/-- a mapping's text: its port o, its host's port h -/
theorem pm_string (p : Pub) (hp : p.Ok) (o h : List UInt8) (ho : o.length ≤ 131080) (hh : h.length ≤ 131073) (b : Nat) (w : World)
    (c0 : w.cell? ⟨b, 0, none⟩ = some (.string (tx o))) (c1 : w.cell? ⟨b, 1, none⟩ = some (.string (tx p.ip))) (c2 : w.cell? ⟨b, 2, none⟩ = some (.string (tx h))) :
    Calls Tryz.prog 31 #[.pointer (some ⟨b, 0, none⟩)] w fun e w' => e = .returned (.string (tx (p.ipT ++ 58 :: (h ++ 58 :: o)))) ∧ Below w.heap.size w w' := by
  have Hj := Lib.hid (joinHP p hp (h ++ 58 :: o) (by simp; omega))
  have zo : (tx o).size ≤ 131080 := by rw [tx_size]; exact ho
  have zh : (tx h).size ≤ 131073 := by rw [tx_size]; exact hh
  have e58 : (⟨#[58]⟩ : ByteArray) = tx [58] := rfl
  have ha1 := add_tx h [58] (by simp; omega)
  have ha2 := add_tx (h ++ [58]) o (by simp; omega)
  have eo : h ++ [58] ++ o = h ++ 58 :: o := by simp
  rw [eo] at ha2
  rw [← e58] at ha1
  have HB3 : Below w.heap.size w w := Below.refl _ _
  clear hp ho hh eo e58
  go_enter Tryz.func31, Tryz.ntmps31
  go_upto_region 1 with fail
  go_region_held3 (fun W => W.cell? ⟨b, 0, none⟩ = some (.string (tx o)) ∧ W.cell? ⟨b, 1, none⟩ = some (.string (tx p.ip)) ∧ W.cell? ⟨b, 2, none⟩ = some (.string (tx h)) ∧ Below w.heap.size w W)
    (first | exact ⟨c0, c1, c2, HB3⟩ | exact ⟨c0, c1, c2, HB3.drew⟩)
    (first | (go_at_call 48; (with_reducible refine (Hj.out _).mono ?_); rintro e w3 ⟨rfl, hb3⟩; have HB3 : Below w.heap.size w w3 := (by first | exact bl6 hb3 HB3 | exact bl6 hb3 HB3.drew); have c0 := (HB3.cell (p := ⟨b, 0, none⟩) (World.block_lt_of_cell? w _ c0)).trans c0; have c1 := (HB3.cell (p := ⟨b, 1, none⟩) (World.block_lt_of_cell? w _ c1)).trans c1; have c2 := (HB3.cell (p := ⟨b, 2, none⟩) (World.block_lt_of_cell? w _ c2)).trans c2))
  all_goals go_wp2_with fail
  all_goals go_ret
  all_goals exact ⟨rfl, HB3⟩

set_option maxRecDepth 100000 in
set_option maxHeartbeats 4000000 in
theorem show_ok (p : Pub) (hp : p.Ok) (o h : List UInt8) (ho : o.length ≤ 131080) (hh : h.length ≤ 131073) (w : World) :
    Calls Tryz.prog 16 #[.agg #[.string (tx o), .string (tx p.ip), .string (tx h)]] w fun e w' => e = .returned (.string (tx (p.ipT ++ 58 :: (h ++ 58 :: o)))) ∧ Below w.heap.size w w' := by
  have Hs := Lib.hid (pm_string p hp o h ho hh)
  have HV : Hid (Below w.heap.size w ((w.alloc (.cells #[.string (tx o), .string (tx p.ip), .string (tx h)] 42)).alloc (.cells #[.string (tx o), .string (tx p.ip), .string (tx h)] 67))) := ((Below.refl _ _).alloc (Nat.le_refl _) _).alloc (by simp) _
  have r1 : ((w.alloc (.cells #[.string (tx o), .string (tx p.ip), .string (tx h)] 42)).alloc (.cells #[.string (tx o), .string (tx p.ip), .string (tx h)] 67)).heap[w.heap.size + 1]? = some (.cells #[.string (tx o), .string (tx p.ip), .string (tx h)] 67 (0, 0)) := by
    have h := heap_alloc_new (w.alloc (.cells #[.string (tx o), .string (tx p.ip), .string (tx h)] 42)) (.cells #[.string (tx o), .string (tx p.ip), .string (tx h)] 67)
    simpa using h
  have HR := Lib.hid r1
  clear hp ho hh r1
  go_enter Tryz.func16, Tryz.ntmps16
  go_wp2_with fail
  refine (Hs.out _ _ (row_cell (l := [.string (tx o), .string (tx p.ip), .string (tx h)]) HR.out (j := 0) rfl) (row_cell (l := [.string (tx o), .string (tx p.ip), .string (tx h)]) HR.out (j := 1) rfl) (row_cell (l := [.string (tx o), .string (tx p.ip), .string (tx h)]) HR.out (j := 2) rfl)).mono ?_
  rintro e w2 ⟨rfl, hb2⟩
  go_wp2_with fail
  go_ret
  exact ⟨rfl, HV.out.trans (hb2.mono HV.out.size)⟩
end Go.Proofs.YtdmggcbbfljciaaGreatDoor
