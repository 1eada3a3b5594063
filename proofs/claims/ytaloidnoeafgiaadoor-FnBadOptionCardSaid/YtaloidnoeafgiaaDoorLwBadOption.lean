/- the law FnBadOption: its walk. -/
import Derived.Test.YtaloidnoeafgiaaDoorLwInit
import Derived.Deep.Cut
namespace Go.Proofs.YtaloidnoeafgiaaDoor
open Go.RowKit Go.Lib

theorem not_kind {k d : ByteArray} (h : optB k d = false) (hd : wordB d = true) (hk : k ≠ kD) : ¬ Kind k := by
  intro hK
  unfold optB at h
  rw [if_neg hk] at h
  by_cases h2 : k = kL
  · rw [if_pos h2, hd] at h; cases h
  · rw [if_neg h2] at h
    rw [if_pos, hd] at h
    · cases h
    · rcases hK with h' | h' | h' | h' | h'
      · exact absurd h' h2
      · exact Or.inl h'
      · exact Or.inr (Or.inl h')
      · exact Or.inr (Or.inr (Or.inl h'))
      · exact Or.inr (Or.inr (Or.inr h'))

/-- an option that is none: no labels -/
theorem init_bad (s : ByteArray) (pr : ByteArray) (p m : Lab) (hp : p.Ok) (hm : m.Ok) (hd : s ≠ kD) (hs : s.size ≤ 100000)
    (hw : (58 : UInt8) ∉ s.data.toList ∨ ∃ k d : ByteArray, s.data.toList = k.data.toList ++ 58 :: d.data.toList ∧ (58 : UInt8) ∉ k.data.toList ∧ lk optL k = none) (ps ms : ByteArray) (hps : ps.data.toList = p.text) (hms : ms.data.toList = m.text) (W : World) (v : Value) (B : Nat) (h : W.ownsRow B 9 1 v 1 [.string s]) :
    Calls Tryd.prog 30 #[v, .string ps, .string ms, .string pr] W fun e w' => e = .returned (.tuple #[.string ⟨#[]⟩, .string ⟨#[]⟩, .bool false]) ∧ Below W.heap.size W w' :=
  implInit_bad B v [s] (by simp) ps ms pr (fun B' v' w' h' => by
    obtain ⟨ao, c, rfl⟩ := owns_shape' h'
    obtain ⟨_, g, rfl, _, _, hc⟩ := own_strs h' (by simp)
    exact initLabels_bad g c s ps ms pr p m hps hms hp hm hd hs hw w' (hc 0 (by simp))) W h

theorem app_colon (k d : ByteArray) : (k ++ (⟨#[58]⟩ : ByteArray) ++ d).data.toList = k.data.toList ++ 58 :: d.data.toList := by
  rw [app_bytes, app_bytes]; simp

theorem bs_own0 (X : World) (s : ByteArray) : (X.alloc (.cells #[.string s] 9)).ownsRow 0 9 1 (.slice (some ⟨X.heap.size, 0, none⟩) 1 1) 1 [.string s] :=
  ⟨rfl, Or.inr ⟨X.heap.size, 1, #[.string s], rfl, Nat.zero_le _, heap_alloc_new _ _, by decide, by decide, rfl, rfl⟩⟩

theorem bs_own {X w' : World} {s : ByteArray} (hb : Below (X.alloc (.cells #[.string s] 9)).heap.size (X.alloc (.cells #[.string s] 9)) w') : w'.ownsRow 0 9 1 (.slice (some ⟨X.heap.size, 0, none⟩) 1 1) 1 [.string s] :=
  own_below (bs_own0 X s) hb

theorem bs_ownD {X w' : World} {s : ByteArray} (hb : Below (X.alloc (.cells #[.string s] 9)).drew.heap.size (X.alloc (.cells #[.string s] 9)).drew w') : w'.ownsRow 0 9 1 (.slice (some ⟨X.heap.size, 0, none⟩) 1 1) 1 [.string s] :=
  own_below (bs_own0 X s) ⟨hb.os, hb.tape, hb.output, hb.size, hb.block⟩

/-- what lies stays, where a block is made -/
theorem kept_alloc (X : World) (o : Obj) (V : World) {b5 b6 : Nat} {x0 x1 x2 x3 y0 y1 y2 y3 : Value} (l5 : b5 < X.heap.size) (l6 : b6 < X.heap.size) (h0 : X.cell? ⟨b5, 0, none⟩ = some x0) (h1 : X.cell? ⟨b5, 1, none⟩ = some x1) (h2 : X.cell? ⟨b5, 2, none⟩ = some x2) (h3 : X.cell? ⟨b5, 3, none⟩ = some x3)
    (g0 : X.cell? ⟨b6, 0, none⟩ = some y0) (g1 : X.cell? ⟨b6, 1, none⟩ = some y1) (g2 : X.cell? ⟨b6, 2, none⟩ = some y2) (g3 : X.cell? ⟨b6, 3, none⟩ = some y3) (hb : Below V.heap.size V X) (hs : V.heap.size ≤ X.heap.size) :
    (X.alloc o).cell? ⟨b5, 0, none⟩ = some x0 ∧ (X.alloc o).cell? ⟨b5, 1, none⟩ = some x1 ∧ (X.alloc o).cell? ⟨b5, 2, none⟩ = some x2 ∧ (X.alloc o).cell? ⟨b5, 3, none⟩ = some x3 ∧
      (X.alloc o).cell? ⟨b6, 0, none⟩ = some y0 ∧ (X.alloc o).cell? ⟨b6, 1, none⟩ = some y1 ∧ (X.alloc o).cell? ⟨b6, 2, none⟩ = some y2 ∧ (X.alloc o).cell? ⟨b6, 3, none⟩ = some y3 ∧ Below V.heap.size V (X.alloc o) := by
  have k5 : ∀ j, (X.alloc o).cell? ⟨b5, j, none⟩ = X.cell? ⟨b5, j, none⟩ := fun j => World.cell?_of_block (w := X) (Below.heap_alloc _ _ _ l5)
  have k6 : ∀ j, (X.alloc o).cell? ⟨b6, j, none⟩ = X.cell? ⟨b6, j, none⟩ := fun j => World.cell?_of_block (w := X) (Below.heap_alloc _ _ _ l6)
  exact ⟨(k5 0).trans h0, (k5 1).trans h1, (k5 2).trans h2, (k5 3).trans h3, (k6 0).trans g0, (k6 1).trans g1, (k6 2).trans g2, (k6 3).trans g3, hb.alloc hs o⟩

set_option maxRecDepth 100000 in
set_option maxHeartbeats 8000000 in
theorem fnBadOption_walk (k d : ByteArray) (p m : Lab) (w : World) (hT : Tabs w) :
    Calls Tryd.prog 7 #[.string k, .string d, labV p.u p.r p.t p.l, labV m.u m.r m.t m.l] w fun e w' => e = .returned (.bool true) ∧ Below w.heap.size w w' := by
  have hw := Lib.hid (fun w hT => works_ok w hT)
  have Ht := Lib.hid hT
  have L50 : LabAt (w.alloc (.cells (labCs p).toArray 41)) w.heap.size p := heap_alloc_new _ _
  have L60 : LabAt ((w.alloc (.cells (labCs p).toArray 41)).alloc (.cells (labCs m).toArray 41)) (w.heap.size + 1) m := by
    have := heap_alloc_new (w.alloc (.cells (labCs p).toArray 41)) (.cells (labCs m).toArray 41)
    unfold LabAt
    simpa using this
  have L5 : Hid (LabAt ((w.alloc (.cells (labCs p).toArray 41)).alloc (.cells (labCs m).toArray 41)) w.heap.size p) := L50.alloc _
  have L6 := Lib.hid L60
  have HB : Hid (Below w.heap.size w ((w.alloc (.cells (labCs p).toArray 41)).alloc (.cells (labCs m).toArray 41))) := ((Below.refl _ _).alloc (Nat.le_refl _) _).alloc (by simp) _
  clear L50 L60 hT
  have d50 := row_cell (l := labCs p) L5.out (j := 0) rfl
  have d51 := row_cell (l := labCs p) L5.out (j := 1) rfl
  have d52 := row_cell (l := labCs p) L5.out (j := 2) rfl
  have d53 := row_cell (l := labCs p) L5.out (j := 3) rfl
  have d60 := row_cell (l := labCs m) L6.out (j := 0) rfl
  have d61 := row_cell (l := labCs m) L6.out (j := 1) rfl
  have d62 := row_cell (l := labCs m) L6.out (j := 2) rfl
  have d63 := row_cell (l := labCs m) L6.out (j := 3) rfl
  by_cases q1 : k.size ≤ 2147483647
  · have j1 : decide ((k.size : Int) > 2147483647) = false := decide_eq_false (by omega)
    by_cases q2 : d.size ≤ 2147483647
    · have j2 : decide ((d.size : Int) > 2147483647) = false := decide_eq_false (by omega)
      have hwk := Lib.hid (word_any k (by omega))
      have hwd := Lib.hid (word_any d (by omega))
      have hop := Lib.hid (fun W => option_proper k d q2 W)
      go_enter Tryd.func7, Tryd.ntmps7
      go_wp2_with fail
      refine (fits3_any p.u p.r p.t p.l _).mono ?_
      rintro e w3 ⟨rfl, hb3⟩
      have L5 := Lib.hid (L5.out.below hb3)
      have L6 := Lib.hid (L6.out.below hb3)
      have HB := Lib.hid (HB.out.trans (hb3.mono HB.out.size))
      have d50 := row_cell (l := labCs p) L5.out (j := 0) rfl
      have d51 := row_cell (l := labCs p) L5.out (j := 1) rfl
      have d52 := row_cell (l := labCs p) L5.out (j := 2) rfl
      have d53 := row_cell (l := labCs p) L5.out (j := 3) rfl
      have d60 := row_cell (l := labCs m) L6.out (j := 0) rfl
      have d61 := row_cell (l := labCs m) L6.out (j := 1) rfl
      have d62 := row_cell (l := labCs m) L6.out (j := 2) rfl
      have d63 := row_cell (l := labCs m) L6.out (j := 3) rfl
      clear hb3
      by_cases k1 : p.u.size ≤ 2147483647 ∧ p.r.size ≤ 2147483647 ∧ p.t.size ≤ 2147483647 ∧ p.l.size ≤ 2147483647
      · rw [decide_eq_true k1]
        go_wp2_with fail
        refine (fits3_any m.u m.r m.t m.l _).mono ?_
        rintro e w4 ⟨rfl, hb4⟩
        have L5 := Lib.hid (L5.out.below hb4)
        have L6 := Lib.hid (L6.out.below hb4)
        have HB := Lib.hid (HB.out.trans (hb4.mono HB.out.size))
        have d50 := row_cell (l := labCs p) L5.out (j := 0) rfl
        have d51 := row_cell (l := labCs p) L5.out (j := 1) rfl
        have d52 := row_cell (l := labCs p) L5.out (j := 2) rfl
        have d53 := row_cell (l := labCs p) L5.out (j := 3) rfl
        have d60 := row_cell (l := labCs m) L6.out (j := 0) rfl
        have d61 := row_cell (l := labCs m) L6.out (j := 1) rfl
        have d62 := row_cell (l := labCs m) L6.out (j := 2) rfl
        have d63 := row_cell (l := labCs m) L6.out (j := 3) rfl
        clear hb4
        by_cases k2 : m.u.size ≤ 2147483647 ∧ m.r.size ≤ 2147483647 ∧ m.t.size ≤ 2147483647 ∧ m.l.size ≤ 2147483647
        · rw [decide_eq_true k2]
          have Hpp := Lib.hid (fun W => label_proper p.u p.r p.t p.l ⟨by omega, by omega, by omega, by omega⟩ W)
          have Hmp := Lib.hid (fun W => label_proper m.u m.r m.t m.l ⟨by omega, by omega, by omega, by omega⟩ W)
          clear k1 k2
          go_wp2_with fail
          refine (hwk.out _).mono ?_
          rintro e w5 ⟨rfl, rfl⟩
          cases hk : wordB k
          · clear hk
            go_wp2_with fail
            refine (hw.out _ (Ht.out.below HB.out)).mono ?_
            rintro e w9 ⟨rfl, hb9⟩
            go_wp2
            go_ret
            exact ⟨rfl, HB.out.trans (hb9.mono HB.out.size)⟩
          · have Hk := Lib.hid hk
            clear hk
            go_wp2_with fail
            refine (hwd.out _).mono ?_
            rintro e w5 ⟨rfl, rfl⟩
            cases hd : wordB d
            · clear hd
              go_wp2_with fail
              refine (hw.out _ (Ht.out.below HB.out)).mono ?_
              rintro e w9 ⟨rfl, hb9⟩
              go_wp2
              go_ret
              exact ⟨rfl, HB.out.trans (hb9.mono HB.out.size)⟩
            · have Hd := Lib.hid hd
              clear hd
              go_wp2_with fail
              refine (hop.out _).mono ?_
              rintro e w5 ⟨rfl, hb5⟩
              have L5 := Lib.hid (L5.out.below hb5)
              have L6 := Lib.hid (L6.out.below hb5)
              have HB := Lib.hid (HB.out.trans (hb5.mono HB.out.size))
              have d50 := row_cell (l := labCs p) L5.out (j := 0) rfl
              have d51 := row_cell (l := labCs p) L5.out (j := 1) rfl
              have d52 := row_cell (l := labCs p) L5.out (j := 2) rfl
              have d53 := row_cell (l := labCs p) L5.out (j := 3) rfl
              have d60 := row_cell (l := labCs m) L6.out (j := 0) rfl
              have d61 := row_cell (l := labCs m) L6.out (j := 1) rfl
              have d62 := row_cell (l := labCs m) L6.out (j := 2) rfl
              have d63 := row_cell (l := labCs m) L6.out (j := 3) rfl
              clear hb5
              cases ho : optB k d
              · have Ho := Lib.hid ho
                clear ho
                by_cases hkd : k = kD
                · subst hkd
                  go_wp2_with fail
                  refine (hw.out _ (Ht.out.below HB.out)).mono ?_
                  rintro e w9 ⟨rfl, hb9⟩
                  go_wp2
                  go_ret
                  exact ⟨rfl, HB.out.trans (hb9.mono HB.out.size)⟩
                · have hkd2 := lit_ne hkd
                  have Hkd := Lib.hid hkd
                  clear hkd
                  go_wp2_with fail
                  refine (Hpp.out _).mono ?_
                  rintro e w6 ⟨rfl, hb6⟩
                  have L5 := Lib.hid (L5.out.below hb6)
                  have L6 := Lib.hid (L6.out.below hb6)
                  have HB := Lib.hid (HB.out.trans (hb6.mono HB.out.size))
                  have d50 := row_cell (l := labCs p) L5.out (j := 0) rfl
                  have d51 := row_cell (l := labCs p) L5.out (j := 1) rfl
                  have d52 := row_cell (l := labCs p) L5.out (j := 2) rfl
                  have d53 := row_cell (l := labCs p) L5.out (j := 3) rfl
                  have d60 := row_cell (l := labCs m) L6.out (j := 0) rfl
                  have d61 := row_cell (l := labCs m) L6.out (j := 1) rfl
                  have d62 := row_cell (l := labCs m) L6.out (j := 2) rfl
                  have d63 := row_cell (l := labCs m) L6.out (j := 3) rfl
                  clear hb6
                  cases hp : labB p.u p.r p.t p.l
                  · clear hp
                    go_wp2_with fail
                    refine (hw.out _ (Ht.out.below HB.out)).mono ?_
                    rintro e w9 ⟨rfl, hb9⟩
                    go_wp2
                    go_ret
                    exact ⟨rfl, HB.out.trans (hb9.mono HB.out.size)⟩
                  · have Hp := Lib.hid (lab_ok hp)
                    clear hp
                    go_wp2_with fail
                    refine (Hmp.out _).mono ?_
                    rintro e w7 ⟨rfl, hb7⟩
                    have L5 := Lib.hid (L5.out.below hb7)
                    have L6 := Lib.hid (L6.out.below hb7)
                    have HB := Lib.hid (HB.out.trans (hb7.mono HB.out.size))
                    have d50 := row_cell (l := labCs p) L5.out (j := 0) rfl
                    have d51 := row_cell (l := labCs p) L5.out (j := 1) rfl
                    have d52 := row_cell (l := labCs p) L5.out (j := 2) rfl
                    have d53 := row_cell (l := labCs p) L5.out (j := 3) rfl
                    have d60 := row_cell (l := labCs m) L6.out (j := 0) rfl
                    have d61 := row_cell (l := labCs m) L6.out (j := 1) rfl
                    have d62 := row_cell (l := labCs m) L6.out (j := 2) rfl
                    have d63 := row_cell (l := labCs m) L6.out (j := 3) rfl
                    clear hb7
                    cases hm : labB m.u m.r m.t m.l
                    · clear hm
                      go_wp2_with fail
                      refine (hw.out _ (Ht.out.below HB.out)).mono ?_
                      rintro e w9 ⟨rfl, hb9⟩
                      go_wp2
                      go_ret
                      exact ⟨rfl, HB.out.trans (hb9.mono HB.out.size)⟩
                    · have Hm := Lib.hid (lab_ok hm)
                      clear hm Hpp Hmp hop hwk hwd
                      have hwk2 := word_ok Hk.out
                      have hwd2 := word_ok Hd.out
                      have HG := Lib.hid (fun W => label_text p.u p.r p.t p.l Hp.out.small.sized W)
                      have HG2 := Lib.hid (fun W => label_text m.u m.r m.t m.l Hm.out.small.sized W)
                      have HI1 : Hid (∀ (s ps ms : ByteArray), s.data.toList = k.data.toList ++ 58 :: d.data.toList → ps.data.toList = p.text → ms.data.toList = m.text → ∀ (W : World) (v : Value) (B : Nat), W.ownsRow B 9 1 v 1 [.string s] → Calls Tryd.prog 30 #[v, .string ps, .string ms, .string ⟨#[97]⟩] W fun e w' => e = .returned (.tuple #[.string ⟨#[]⟩, .string ⟨#[]⟩, .bool false]) ∧ Below W.heap.size W w') := by
                        intro s ps ms hs hps hms W v B h
                        refine init_bad s ⟨#[97]⟩ p m Hp.out Hm.out ?_ ?_ (Or.inr ⟨k, d, hs, hwk2.1, lk_other (not_kind Ho.out Hd.out Hkd.out) Hkd.out⟩) ps ms hps hms W v B h
                        · intro e
                          rw [e] at hs
                          have : (58 : UInt8) ∈ kD.data.toList := by rw [hs]; simp
                          exact absurd this (by decide)
                        · rw [Lib.size_eq, hs]
                          have := hwk2.2
                          have := hwd2.2
                          simp; omega
                      have HI2 : Hid (∀ (ps ms : ByteArray), ps.data.toList = p.text → ms.data.toList = m.text → ∀ (W : World) (v : Value) (B : Nat), W.ownsRow B 9 1 v 1 [.string k] → Calls Tryd.prog 30 #[v, .string ps, .string ms, .string ⟨#[97]⟩] W fun e w' => e = .returned (.tuple #[.string ⟨#[]⟩, .string ⟨#[]⟩, .bool false]) ∧ Below W.heap.size W w') := by
                        intro ps ms hps hms W v B h
                        exact init_bad k ⟨#[97]⟩ p m Hp.out Hm.out Hkd.out (by have := hwk2.2; omega) (Or.inl hwk2.1) ps ms hps hms W v B h
                      have HI1 := Lib.hid (fun ps ms h1 h2 W v B h => HI1.out _ ps ms (app_colon k d) h1 h2 W v B h)
                      have ha1 : ∀ w, (Op.stringOp .add k (⟨#[58]⟩ : ByteArray)).run Tryd.prog w = .ok (.string (k ++ (⟨#[58]⟩ : ByteArray))) w := fun w => run_string_add_sum w _ _ (by have := hwk2.2; show k.size + 1 ≤ _; omega)
                      have ha2 : ∀ w, (Op.stringOp .add (k ++ (⟨#[58]⟩ : ByteArray)) d).run Tryd.prog w = .ok (.string (k ++ (⟨#[58]⟩ : ByteArray) ++ d)) w := fun w => run_string_add_sum w _ _ (by have := hwk2.2; have := hwd2.2; rw [ByteArray.size_append]; show k.size + 1 + d.size ≤ _; omega)
                      have hc1 : ¬ (9223372036854775807 < k.size + 1) := by have := hwk2.2; omega
                      have hc2 : ¬ (9223372036854775807 < k.size + 1 + d.size) := by have := hwk2.2; have := hwd2.2; omega
                      have hc3 : ¬ (9223372036854775806 < k.size) := by have := hwk2.2; omega
                      clear Hk Hd Ho Hkd hwk2 hwd2
                      have l5 := L5.out.lt
                      have l6 := L6.out.lt
                      have o50 := d50
                      have o51 := d51
                      have o52 := d52
                      have o53 := d53
                      have o60 := d60
                      have o61 := d61
                      have o62 := d62
                      have o63 := d63
                      go_upto_region 5 with fail
                      go_cut [9, 10, 11] from 15 (fun s9 s10 s11 wc => s11 = .bool false ∧ Hid (Below w7.heap.size w7 wc))
                      case first =>
                        go_region_held3 (fun W => W.cell? ⟨w.heap.size, 0, none⟩ = some (.string p.u) ∧ W.cell? ⟨w.heap.size, 1, none⟩ = some (.string p.r) ∧ W.cell? ⟨w.heap.size, 2, none⟩ = some (.string p.t) ∧ W.cell? ⟨w.heap.size, 3, none⟩ = some (.string p.l) ∧ W.cell? ⟨w.heap.size + 1, 0, none⟩ = some (.string m.u) ∧ W.cell? ⟨w.heap.size + 1, 1, none⟩ = some (.string m.r) ∧ W.cell? ⟨w.heap.size + 1, 2, none⟩ = some (.string m.t) ∧ W.cell? ⟨w.heap.size + 1, 3, none⟩ = some (.string m.l) ∧ Below w7.heap.size w7 W)
                          (first | exact ⟨d50, d51, d52, d53, d60, d61, d62, d63, HB3⟩ | exact ⟨d50, d51, d52, d53, d60, d61, d62, d63, (Below.refl _ w7).drew⟩ | exact kept_alloc w7.drew _ w7 l5 l6 d50 d51 d52 d53 d60 d61 d62 d63 ((Below.refl _ w7).drew) (Nat.le_refl _) | exact kept_alloc _ _ w7 (Nat.lt_of_lt_of_le l5 HB3.size) (Nat.lt_of_lt_of_le l6 HB3.size) d50 d51 d52 d53 d60 d61 d62 d63 HB3 HB3.size)
                          (first | (go_at_call 31; with_reducible refine (HG.out _).mono ?_; rintro e w8 ⟨s1, rfl, hs1, hb4⟩; have HB3 : Below w7.heap.size w7 w8 := (by first | exact HB3.trans (hb4.mono HB3.size) | exact ((Below.refl _ w7).drew).trans (hb4.mono (Nat.le_refl _)) | exact (((Below.refl _ w7).drew).alloc (Nat.le_refl _) _).trans (hb4.mono ((Below.refl 0 w7.drew).alloc (Nat.zero_le _) _).size) | exact ((((Below.refl _ w7).alloc (Nat.le_refl _) _).drew).trans (hb4.mono (((Below.refl 0 w7).alloc (Nat.zero_le _) _).drew).size)) | exact (HB3.alloc HB3.size _).trans (hb4.mono (Nat.le_trans HB3.size ((Below.refl 0 _).alloc (Nat.zero_le _) _).size))); have d50 := (HB3.cell (p := ⟨w.heap.size, 0, none⟩) l5).trans o50; have d51 := (HB3.cell (p := ⟨w.heap.size, 1, none⟩) l5).trans o51; have d52 := (HB3.cell (p := ⟨w.heap.size, 2, none⟩) l5).trans o52; have d53 := (HB3.cell (p := ⟨w.heap.size, 3, none⟩) l5).trans o53; have d60 := (HB3.cell (p := ⟨w.heap.size + 1, 0, none⟩) l6).trans o60; have d61 := (HB3.cell (p := ⟨w.heap.size + 1, 1, none⟩) l6).trans o61; have d62 := (HB3.cell (p := ⟨w.heap.size + 1, 2, none⟩) l6).trans o62; have d63 := (HB3.cell (p := ⟨w.heap.size + 1, 3, none⟩) l6).trans o63; (first | have hO := bs_own hb4 | have hO := bs_ownD hb4 | have hO := own_below hO hb4 | skip)) | (go_at_call 31; with_reducible refine (HG2.out _).mono ?_; rintro e w9 ⟨s2, rfl, hs2, hb4⟩; have HB3 : Below w7.heap.size w7 w9 := (by first | exact HB3.trans (hb4.mono HB3.size) | exact ((Below.refl _ w7).drew).trans (hb4.mono (Nat.le_refl _)) | exact (((Below.refl _ w7).drew).alloc (Nat.le_refl _) _).trans (hb4.mono ((Below.refl 0 w7.drew).alloc (Nat.zero_le _) _).size) | exact ((((Below.refl _ w7).alloc (Nat.le_refl _) _).drew).trans (hb4.mono (((Below.refl 0 w7).alloc (Nat.zero_le _) _).drew).size)) | exact (HB3.alloc HB3.size _).trans (hb4.mono (Nat.le_trans HB3.size ((Below.refl 0 _).alloc (Nat.zero_le _) _).size))); have d50 := (HB3.cell (p := ⟨w.heap.size, 0, none⟩) l5).trans o50; have d51 := (HB3.cell (p := ⟨w.heap.size, 1, none⟩) l5).trans o51; have d52 := (HB3.cell (p := ⟨w.heap.size, 2, none⟩) l5).trans o52; have d53 := (HB3.cell (p := ⟨w.heap.size, 3, none⟩) l5).trans o53; have d60 := (HB3.cell (p := ⟨w.heap.size + 1, 0, none⟩) l6).trans o60; have d61 := (HB3.cell (p := ⟨w.heap.size + 1, 1, none⟩) l6).trans o61; have d62 := (HB3.cell (p := ⟨w.heap.size + 1, 2, none⟩) l6).trans o62; have d63 := (HB3.cell (p := ⟨w.heap.size + 1, 3, none⟩) l6).trans o63; (first | have hO := bs_own hb4 | have hO := bs_ownD hb4 | have hO := own_below hO hb4 | skip)) | (go_at_call 30; refine (HI1.out s1 s2 hs1.out hs2.out _ _ 0 (by first | (with_reducible exact hO) | (with_reducible exact bs_own0 _ _))).mono ?_; rintro e w10 ⟨rfl, hb4⟩; have HB3 : Below w7.heap.size w7 w10 := (by first | exact HB3.trans (hb4.mono HB3.size) | exact ((Below.refl _ w7).drew).trans (hb4.mono (Nat.le_refl _)) | exact (((Below.refl _ w7).drew).alloc (Nat.le_refl _) _).trans (hb4.mono ((Below.refl 0 w7.drew).alloc (Nat.zero_le _) _).size) | exact ((((Below.refl _ w7).alloc (Nat.le_refl _) _).drew).trans (hb4.mono (((Below.refl 0 w7).alloc (Nat.zero_le _) _).drew).size)) | exact (HB3.alloc HB3.size _).trans (hb4.mono (Nat.le_trans HB3.size ((Below.refl 0 _).alloc (Nat.zero_le _) _).size))); have d50 := (HB3.cell (p := ⟨w.heap.size, 0, none⟩) l5).trans o50; have d51 := (HB3.cell (p := ⟨w.heap.size, 1, none⟩) l5).trans o51; have d52 := (HB3.cell (p := ⟨w.heap.size, 2, none⟩) l5).trans o52; have d53 := (HB3.cell (p := ⟨w.heap.size, 3, none⟩) l5).trans o53; have d60 := (HB3.cell (p := ⟨w.heap.size + 1, 0, none⟩) l6).trans o60; have d61 := (HB3.cell (p := ⟨w.heap.size + 1, 1, none⟩) l6).trans o61; have d62 := (HB3.cell (p := ⟨w.heap.size + 1, 2, none⟩) l6).trans o62; have d63 := (HB3.cell (p := ⟨w.heap.size + 1, 3, none⟩) l6).trans o63))
                        all_goals go_wp2_with fail
                        all_goals go_meet
                        all_goals (case rel => exact ⟨rfl, HB3⟩)
                      case rest =>
                        obtain ⟨rfl, hbc⟩ := hcut
                        have L5 := Lib.hid (L5.out.below hbc.out)
                        have L6 := Lib.hid (L6.out.below hbc.out)
                        have HB := Lib.hid (HB.out.trans (hbc.out.mono HB.out.size))
                        clear hbc d50 d51 d52 d53 d60 d61 d62 d63 o50 o51 o52 o53 o60 o61 o62 o63 l5 l6
                        have l5 := L5.out.lt
                        have l6 := L6.out.lt
                        have d50 := row_cell (l := labCs p) L5.out (j := 0) rfl
                        have d51 := row_cell (l := labCs p) L5.out (j := 1) rfl
                        have d52 := row_cell (l := labCs p) L5.out (j := 2) rfl
                        have d53 := row_cell (l := labCs p) L5.out (j := 3) rfl
                        have d60 := row_cell (l := labCs m) L6.out (j := 0) rfl
                        have d61 := row_cell (l := labCs m) L6.out (j := 1) rfl
                        have d62 := row_cell (l := labCs m) L6.out (j := 2) rfl
                        have d63 := row_cell (l := labCs m) L6.out (j := 3) rfl
                        have hw0 := hw
                        have o50 := d50
                        have o51 := d51
                        have o52 := d52
                        have o53 := d53
                        have o60 := d60
                        have o61 := d61
                        have o62 := d62
                        have o63 := d63
                        go_upto_region 6 with fail
                        go_region_held3 (fun W => W.cell? ⟨w.heap.size, 0, none⟩ = some (.string p.u) ∧ W.cell? ⟨w.heap.size, 1, none⟩ = some (.string p.r) ∧ W.cell? ⟨w.heap.size, 2, none⟩ = some (.string p.t) ∧ W.cell? ⟨w.heap.size, 3, none⟩ = some (.string p.l) ∧ W.cell? ⟨w.heap.size + 1, 0, none⟩ = some (.string m.u) ∧ W.cell? ⟨w.heap.size + 1, 1, none⟩ = some (.string m.r) ∧ W.cell? ⟨w.heap.size + 1, 2, none⟩ = some (.string m.t) ∧ W.cell? ⟨w.heap.size + 1, 3, none⟩ = some (.string m.l) ∧ Below wc.heap.size wc W)
                          (first | exact ⟨d50, d51, d52, d53, d60, d61, d62, d63, HB3⟩ | exact ⟨d50, d51, d52, d53, d60, d61, d62, d63, (Below.refl _ wc).drew⟩ | exact kept_alloc wc.drew _ wc l5 l6 d50 d51 d52 d53 d60 d61 d62 d63 ((Below.refl _ wc).drew) (Nat.le_refl _) | exact kept_alloc _ _ wc (Nat.lt_of_lt_of_le l5 HB3.size) (Nat.lt_of_lt_of_le l6 HB3.size) d50 d51 d52 d53 d60 d61 d62 d63 HB3 HB3.size)
                          (first | (go_at_call 31; with_reducible refine (HG.out _).mono ?_; rintro e w8 ⟨s1, rfl, hs1, hb4⟩; have HB3 : Below wc.heap.size wc w8 := (by first | exact HB3.trans (hb4.mono HB3.size) | exact ((Below.refl _ wc).drew).trans (hb4.mono (Nat.le_refl _)) | exact (((Below.refl _ wc).drew).alloc (Nat.le_refl _) _).trans (hb4.mono ((Below.refl 0 wc.drew).alloc (Nat.zero_le _) _).size) | exact ((((Below.refl _ wc).alloc (Nat.le_refl _) _).drew).trans (hb4.mono (((Below.refl 0 wc).alloc (Nat.zero_le _) _).drew).size)) | exact (HB3.alloc HB3.size _).trans (hb4.mono (Nat.le_trans HB3.size ((Below.refl 0 _).alloc (Nat.zero_le _) _).size))); have d50 := (HB3.cell (p := ⟨w.heap.size, 0, none⟩) l5).trans o50; have d51 := (HB3.cell (p := ⟨w.heap.size, 1, none⟩) l5).trans o51; have d52 := (HB3.cell (p := ⟨w.heap.size, 2, none⟩) l5).trans o52; have d53 := (HB3.cell (p := ⟨w.heap.size, 3, none⟩) l5).trans o53; have d60 := (HB3.cell (p := ⟨w.heap.size + 1, 0, none⟩) l6).trans o60; have d61 := (HB3.cell (p := ⟨w.heap.size + 1, 1, none⟩) l6).trans o61; have d62 := (HB3.cell (p := ⟨w.heap.size + 1, 2, none⟩) l6).trans o62; have d63 := (HB3.cell (p := ⟨w.heap.size + 1, 3, none⟩) l6).trans o63; (first | have hO := bs_own hb4 | have hO := bs_ownD hb4 | have hO := own_below hO hb4 | skip)) | (go_at_call 31; with_reducible refine (HG2.out _).mono ?_; rintro e w9 ⟨s2, rfl, hs2, hb4⟩; have HB3 : Below wc.heap.size wc w9 := (by first | exact HB3.trans (hb4.mono HB3.size) | exact ((Below.refl _ wc).drew).trans (hb4.mono (Nat.le_refl _)) | exact (((Below.refl _ wc).drew).alloc (Nat.le_refl _) _).trans (hb4.mono ((Below.refl 0 wc.drew).alloc (Nat.zero_le _) _).size) | exact ((((Below.refl _ wc).alloc (Nat.le_refl _) _).drew).trans (hb4.mono (((Below.refl 0 wc).alloc (Nat.zero_le _) _).drew).size)) | exact (HB3.alloc HB3.size _).trans (hb4.mono (Nat.le_trans HB3.size ((Below.refl 0 _).alloc (Nat.zero_le _) _).size))); have d50 := (HB3.cell (p := ⟨w.heap.size, 0, none⟩) l5).trans o50; have d51 := (HB3.cell (p := ⟨w.heap.size, 1, none⟩) l5).trans o51; have d52 := (HB3.cell (p := ⟨w.heap.size, 2, none⟩) l5).trans o52; have d53 := (HB3.cell (p := ⟨w.heap.size, 3, none⟩) l5).trans o53; have d60 := (HB3.cell (p := ⟨w.heap.size + 1, 0, none⟩) l6).trans o60; have d61 := (HB3.cell (p := ⟨w.heap.size + 1, 1, none⟩) l6).trans o61; have d62 := (HB3.cell (p := ⟨w.heap.size + 1, 2, none⟩) l6).trans o62; have d63 := (HB3.cell (p := ⟨w.heap.size + 1, 3, none⟩) l6).trans o63; (first | have hO := bs_own hb4 | have hO := bs_ownD hb4 | have hO := own_below hO hb4 | skip)) | (go_at_call 30; refine (HI2.out s1 s2 hs1.out hs2.out _ _ 0 (by first | (with_reducible exact hO) | (with_reducible exact bs_own0 _ _))).mono ?_; rintro e w10 ⟨rfl, hb4⟩; have HB3 : Below wc.heap.size wc w10 := (by first | exact HB3.trans (hb4.mono HB3.size) | exact ((Below.refl _ wc).drew).trans (hb4.mono (Nat.le_refl _)) | exact (((Below.refl _ wc).drew).alloc (Nat.le_refl _) _).trans (hb4.mono ((Below.refl 0 wc.drew).alloc (Nat.zero_le _) _).size) | exact ((((Below.refl _ wc).alloc (Nat.le_refl _) _).drew).trans (hb4.mono (((Below.refl 0 wc).alloc (Nat.zero_le _) _).drew).size)) | exact (HB3.alloc HB3.size _).trans (hb4.mono (Nat.le_trans HB3.size ((Below.refl 0 _).alloc (Nat.zero_le _) _).size))); have d50 := (HB3.cell (p := ⟨w.heap.size, 0, none⟩) l5).trans o50; have d51 := (HB3.cell (p := ⟨w.heap.size, 1, none⟩) l5).trans o51; have d52 := (HB3.cell (p := ⟨w.heap.size, 2, none⟩) l5).trans o52; have d53 := (HB3.cell (p := ⟨w.heap.size, 3, none⟩) l5).trans o53; have d60 := (HB3.cell (p := ⟨w.heap.size + 1, 0, none⟩) l6).trans o60; have d61 := (HB3.cell (p := ⟨w.heap.size + 1, 1, none⟩) l6).trans o61; have d62 := (HB3.cell (p := ⟨w.heap.size + 1, 2, none⟩) l6).trans o62; have d63 := (HB3.cell (p := ⟨w.heap.size + 1, 3, none⟩) l6).trans o63))
                        all_goals have HB := Lib.hid (HB.out.trans (HB3.mono HB.out.size))
                        all_goals go_wp2_with fail
                        all_goals
                          refine (hw.out _ (Ht.out.below HB.out)).mono ?_
                          rintro e w11 ⟨rfl, hb9⟩
                          go_wp2
                          go_ret
                          exact ⟨rfl, HB.out.trans (hb9.mono HB.out.size)⟩
              · clear ho
                go_wp2_with fail
                refine (hw.out _ (Ht.out.below HB.out)).mono ?_
                rintro e w9 ⟨rfl, hb9⟩
                go_wp2
                go_ret
                exact ⟨rfl, HB.out.trans (hb9.mono HB.out.size)⟩
        · rw [decide_eq_false k2]
          clear k1 k2
          go_wp2_with fail
          go_ret
          exact ⟨rfl, HB.out⟩
      · rw [decide_eq_false k1]
        clear k1
        go_wp2_with fail
        go_ret
        exact ⟨rfl, HB.out⟩
    · have j2 : decide ((d.size : Int) > 2147483647) = true := decide_eq_true (by omega)
      go_enter Tryd.func7, Tryd.ntmps7
      go_wp2_with fail
      go_ret
      exact ⟨rfl, HB.out⟩
  · have j1 : decide ((k.size : Int) > 2147483647) = true := decide_eq_true (by omega)
    go_enter Tryd.func7, Tryd.ntmps7
    go_wp2_with fail
    go_ret
    exact ⟨rfl, HB.out⟩
end Go.Proofs.YtaloidnoeafgiaaDoor
