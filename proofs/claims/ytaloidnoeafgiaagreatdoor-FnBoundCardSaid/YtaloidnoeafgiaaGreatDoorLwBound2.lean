/- the law FnBound on every two ranges: its walk. -/
import Derived.Test.YtaloidnoeafgiaaGreatDoorLwBound
namespace Go.Proofs.YtaloidnoeafgiaaGreatDoor
open Go.RowKit Go.Lib

set_option maxRecDepth 100000 in
set_option maxHeartbeats 4000000 in
theorem fnBound_proper (s s' t t' : Nat) (hs : s ≤ 9999) (hs' : s' ≤ 9999) (ht : t ≤ 9999) (ht' : t' ≤ 9999) (hss : s ≤ s') (htt : t ≤ t') (ao : Option Addr) (ns : List Nat) (c : Nat) (ao' : Option Addr) (ns' : List Nat) (c' : Nat) (bo : Option Addr) (ks : List Nat) (d : Nat) (bo' : Option Addr) (ks' : List Nat) (d' : Nat) (w : World)
    (h : IntsAt w ao (ns.map Int.ofNat)) (h' : IntsAt w ao' (ns'.map Int.ofNat)) (g : IntsAt w bo (ks.map Int.ofNat)) (g' : IntsAt w bo' (ks'.map Int.ofNat)) (hp : ProperL s (ns.map Int.ofNat) ∧ ProperL s' (ns'.map Int.ofNat)) (hq : ProperL t (ks.map Int.ofNat) ∧ ProperL t' (ks'.map Int.ofNat))
    (g1 : CL.Gr ns) (g2 : CL.Gr ns') (g3 : CL.Gr ks) (g4 : CL.Gr ks') (h1 : ∀ x ∈ ns, x ≤ 9999) (h2 : ∀ x ∈ ns', x ≤ 9999) (h3 : ∀ x ∈ ks, x ≤ 9999) (h4 : ∀ x ∈ ks', x ≤ 9999) (l1 : ns.length ≤ 500) (l2 : ns'.length ≤ 500) (l3 : ks.length ≤ 500) (l4 : ks'.length ≤ 500) (hT : Tabs w) :
    Calls Tryz.prog 3 #[.agg #[.int .i64 s, .slice ao ns.length c, .int .i64 s', .slice ao' ns'.length c'], .agg #[.int .i64 t, .slice bo ks.length d, .int .i64 t', .slice bo' ks'.length d']] w fun e w' => e = .returned (.bool true) ∧ Below w.heap.size w w' := by
  have e1 : (ns.map Int.ofNat).length = ns.length := by simp
  have e2 : (ns'.map Int.ofNat).length = ns'.length := by simp
  have e3 : (ks.map Int.ofNat).length = ks.length := by simp
  have e4 : (ks'.map Int.ofNat).length = ks'.length := by simp
  have hsa : ∀ W, Below w.heap.size w W → Calls Tryz.prog 7 #[.agg #[.int .i64 s, .slice ao ns.length c, .int .i64 s', .slice ao' ns'.length c']] W fun e w' => e = .returned (.bool true) ∧ Below W.heap.size W w' := by
    intro W hb
    have hh := span_any s ao (ns.map Int.ofNat) c s' ao' (ns'.map Int.ofNat) c' W (h.below hb) (h'.below hb)
    rw [e1, e2] at hh
    refine hh.mono ?_
    rintro e w' ⟨⟨q, rfl, hq'⟩, hb'⟩
    exact ⟨by rw [hq'.2 hp], hb'⟩
  have hsb : ∀ W, Below w.heap.size w W → Calls Tryz.prog 7 #[.agg #[.int .i64 t, .slice bo ks.length d, .int .i64 t', .slice bo' ks'.length d']] W fun e w' => e = .returned (.bool true) ∧ Below W.heap.size W w' := by
    intro W hb
    have hh := span_any t bo (ks.map Int.ofNat) d t' bo' (ks'.map Int.ofNat) d' W (g.below hb) (g'.below hb)
    rw [e3, e4] at hh
    refine hh.mono ?_
    rintro e w' ⟨⟨q, rfl, hq'⟩, hb'⟩
    exact ⟨by rw [hq'.2 hq], hb'⟩
  obtain ⟨tA, hA⟩ : ∃ x : ByteArray, x.data.toList = spanT s ns s' ns' := ⟨⟨(spanT s ns s' ns').toArray⟩, rfl⟩
  obtain ⟨tB, hB⟩ : ∃ x : ByteArray, x.data.toList = spanT t ks t' ks' := ⟨⟨(spanT t ks t' ks').toArray⟩, rfl⟩
  have hta := fun (W : World) (hb : Below w.heap.size w W) => (span_text s s' hs hs' ao ns c ao' ns' c' W (h.nats.below hb) (h'.nats.below hb) h1 h2 l1 l2).mono (R' := fun e w' => e = .returned (.string tA) ∧ Below W.heap.size W w') (by rintro e w' ⟨r, rfl, hr, _, hb'⟩; obtain rfl : r = tA := bytes_ext (hr.out.trans hA.symm); exact ⟨rfl, hb'⟩)
  have htb := fun (W : World) (hb : Below w.heap.size w W) => (span_text t t' ht ht' bo ks d bo' ks' d' W (g.nats.below hb) (g'.nats.below hb) h3 h4 l3 l4).mono (R' := fun e w' => e = .returned (.string tB) ∧ Below W.heap.size W w') (by rintro e w' ⟨r, rfl, hr, _, hb'⟩; obtain rfl : r = tB := bytes_ext (hr.out.trans hB.symm); exact ⟨rfl, hb'⟩)
  rcases bound_two tA tB s s' t t' hs hs' ht ht' ns ns' ks ks' g1 g2 g3 g4 h1 h2 h3 h4 l1 l2 l3 l4 hA hB with ⟨i1, i2, tG, b1, b2, b3⟩ | ⟨hin, b1, b2⟩
  · refine fnBound_in s s' t t' ao ns.length c ao' ns'.length c' bo ks.length d bo' ks'.length d' w hT hss htt ⟨l1, l2, l3, l4⟩ hsa hsb true tA tB tG (max s t) (min s' t') (comL ns ks) (comL ns' ks') (Nat.le_trans (comL_len ns ks) l1) (Nat.le_trans (comL_len ns' ks') l2) hta htb
      (fun W hb => bound_some s s' t t' ao ns c ao' ns' c' bo ks d bo' ks' d' W i1 i2 (h.nats.below hb) (h'.nats.below hb) (g.nats.below hb) (g'.nats.below hb) l1 l2 l3 l4) ?_ ?_ (fun _ => b3)
    · intro W hW
      refine (implBound tA tB _ b1 W hW).mono ?_
      rintro e w' ⟨r, rfl, hr, hb⟩
      obtain rfl : r = tG := hr.out
      exact ⟨rfl, hb⟩
    · intro W hW
      refine (implBound tB tA _ b2 W hW).mono ?_
      rintro e w' ⟨r, rfl, hr, hb⟩
      obtain rfl : r = tG := hr.out
      exact ⟨rfl, hb⟩
  · refine fnBound_in s s' t t' ao ns.length c ao' ns'.length c' bo ks.length d bo' ks'.length d' w hT hss htt ⟨l1, l2, l3, l4⟩ hsa hsb false tA tB ⟨#[]⟩ 0 0 [] [] (by simp) (by simp) hta htb ?_
      (fun W _ => implBound_none tA tB b1 W) (fun W _ => implBound_none tB tA b2 W) (fun e => by cases e)
    intro W hb
    refine (bound_none s s' t t' ao ns.length c ao' ns'.length c' bo ks.length d bo' ks'.length d' W hin).mono ?_
    rintro e w' ⟨rfl, hb'⟩
    exact ⟨none, none, 0, 0, rfl, (fun i hi => absurd hi (by simp)), (fun i hi => absurd hi (by simp)), hb'⟩

set_option maxRecDepth 100000 in
set_option maxHeartbeats 4000000 in
theorem fnBound_out (s s' : Int) (ao : Option Addr) (l : List Int) (c : Nat) (ao' : Option Addr) (l' : List Int) (c' : Nat) (t t' : Int) (bo : Option Addr) (k : List Int) (d : Nat) (bo' : Option Addr) (k' : List Int) (d' : Nat) (w : World) (h : IntsAt w ao l) (h' : IntsAt w ao' l') (g : IntsAt w bo k) (g' : IntsAt w bo' k') (hT : Tabs w)
    (hno : ¬ ((ProperL s l ∧ ProperL s' l') ∧ (ProperL t k ∧ ProperL t' k') ∧ s ≤ s' ∧ t ≤ t')) :
    Calls Tryz.prog 3 #[.agg #[.int .i64 s, .slice ao l.length c, .int .i64 s', .slice ao' l'.length c'], .agg #[.int .i64 t, .slice bo k.length d, .int .i64 t', .slice bo' k'.length d']] w fun e w' => e = .returned (.bool true) ∧ Below w.heap.size w w' := by
  have Ht := Lib.hid hT
  have Hno := Lib.hid hno
  obtain ⟨fa, hfa⟩ : ∃ fa : Bool, ∀ W, Calls Tryz.prog 6 #[.agg #[.int .i64 s, .slice ao l.length c, .int .i64 s', .slice ao' l'.length c']] W fun e w' => e = .returned (.bool fa) ∧ Below W.heap.size W w' := ⟨_, fits1 s ao l.length c s' ao' l'.length c'⟩
  obtain ⟨fb, hfb⟩ : ∃ fb : Bool, ∀ W, Calls Tryz.prog 6 #[.agg #[.int .i64 t, .slice bo k.length d, .int .i64 t', .slice bo' k'.length d']] W fun e w' => e = .returned (.bool fb) ∧ Below W.heap.size W w' := ⟨_, fits1 t bo k.length d t' bo' k'.length d'⟩
  have Hfa := Lib.hid hfa
  have Hfb := Lib.hid hfb
  have Hsa := Lib.hid (fun W hb => span_any s ao l c s' ao' l' c' W (h.below hb) (h'.below hb))
  have Hsb := Lib.hid (fun W hb => span_any t bo k d t' bo' k' d' W (g.below hb) (g'.below hb))
  clear hT hno hfa hfb h h' g g'
  generalize l.length = n at *
  generalize l'.length = n' at *
  generalize k.length = m at *
  generalize k'.length = m' at *
  have HV0 : Hid (Below w.heap.size w ((w.alloc (.cells #[.int .i64 s, .slice ao n c, .int .i64 s', .slice ao' n' c'] 26)).alloc (.cells #[.int .i64 t, .slice bo m d, .int .i64 t', .slice bo' m' d'] 26))) := ((Below.refl _ _).alloc (Nat.le_refl _) _).alloc (by simp) _
  have r0 : ((w.alloc (.cells #[.int .i64 s, .slice ao n c, .int .i64 s', .slice ao' n' c'] 26)).alloc (.cells #[.int .i64 t, .slice bo m d, .int .i64 t', .slice bo' m' d'] 26)).heap[w.heap.size]? = some (.cells #[.int .i64 s, .slice ao n c, .int .i64 s', .slice ao' n' c'] 26 (0, 0)) := by
    rw [Below.heap_alloc _ _ _ (by simp)]; exact heap_alloc_new _ _
  have r1 : ((w.alloc (.cells #[.int .i64 s, .slice ao n c, .int .i64 s', .slice ao' n' c'] 26)).alloc (.cells #[.int .i64 t, .slice bo m d, .int .i64 t', .slice bo' m' d'] 26)).heap[w.heap.size + 1]? = some (.cells #[.int .i64 t, .slice bo m d, .int .i64 t', .slice bo' m' d'] 26 (0, 0)) := by
    have h := heap_alloc_new (w.alloc (.cells #[.int .i64 s, .slice ao n c, .int .i64 s', .slice ao' n' c'] 26)) (.cells #[.int .i64 t, .slice bo m d, .int .i64 t', .slice bo' m' d'] 26)
    simpa using h
  have HS0 : Hid (S8 ((w.alloc (.cells #[.int .i64 s, .slice ao n c, .int .i64 s', .slice ao' n' c'] 26)).alloc (.cells #[.int .i64 t, .slice bo m d, .int .i64 t', .slice bo' m' d'] 26)) w.heap.size (w.heap.size + 1) (.int .i64 s) (.slice ao n c) (.int .i64 s') (.slice ao' n' c') (.int .i64 t) (.slice bo m d) (.int .i64 t') (.slice bo' m' d') ((w.alloc (.cells #[.int .i64 s, .slice ao n c, .int .i64 s', .slice ao' n' c'] 26)).alloc (.cells #[.int .i64 t, .slice bo m d, .int .i64 t', .slice bo' m' d'] 26))) :=
    ⟨row_cell (l := [.int .i64 s, .slice ao n c, .int .i64 s', .slice ao' n' c']) r0 (j := 0) rfl, row_cell (l := [.int .i64 s, .slice ao n c, .int .i64 s', .slice ao' n' c']) r0 (j := 1) rfl, row_cell (l := [.int .i64 s, .slice ao n c, .int .i64 s', .slice ao' n' c']) r0 (j := 2) rfl, row_cell (l := [.int .i64 s, .slice ao n c, .int .i64 s', .slice ao' n' c']) r0 (j := 3) rfl,
     row_cell (l := [.int .i64 t, .slice bo m d, .int .i64 t', .slice bo' m' d']) r1 (j := 0) rfl, row_cell (l := [.int .i64 t, .slice bo m d, .int .i64 t', .slice bo' m' d']) r1 (j := 1) rfl, row_cell (l := [.int .i64 t, .slice bo m d, .int .i64 t', .slice bo' m' d']) r1 (j := 2) rfl, row_cell (l := [.int .i64 t, .slice bo m d, .int .i64 t', .slice bo' m' d']) r1 (j := 3) rfl, Below.refl _ _⟩
  have hv0 := (Array.getElem?_eq_some_iff.1 r0).1
  have hv1 := (Array.getElem?_eq_some_iff.1 r1).1
  clear r0 r1
  go_enter Tryz.func3, Tryz.ntmps3
  go_wp2_with fail
  generalize ((w.alloc (.cells #[.int .i64 s, .slice ao n c, .int .i64 s', .slice ao' n' c'] 26)).alloc (.cells #[.int .i64 t, .slice bo m d, .int .i64 t', .slice bo' m' d'] 26)) = V at *
  have HB : Hid (Below V.heap.size V V) := Below.refl _ _
  refine (Hfa.out _).mono ?_
  rintro e w3 ⟨rfl, hb3⟩
  have HB : Hid (Below V.heap.size V w3) := bl_step hb3 HB.out
  obtain ⟨a0, a1, a2, a3, b0, b1, b2, b3, -⟩ := S8.keep hv0 hv1 HS0.out HB.out
  clear hb3
  cases fa with
  | false =>
    go_wp2_with fail
    go_ret
    exact ⟨rfl, HV0.out.trans (HB.out.mono HV0.out.size)⟩
  | true =>
  go_wp2_with fail
  refine (Hfb.out _).mono ?_
  rintro e w4 ⟨rfl, hb3⟩
  have HB : Hid (Below V.heap.size V w4) := bl_step hb3 HB.out
  clear a0 a1 a2 a3 b0 b1 b2 b3
  obtain ⟨a0, a1, a2, a3, b0, b1, b2, b3, -⟩ := S8.keep hv0 hv1 HS0.out HB.out
  clear hb3
  cases fb with
  | false =>
    go_wp2_with fail
    go_ret
    exact ⟨rfl, HV0.out.trans (HB.out.mono HV0.out.size)⟩
  | true =>
  go_wp2_with fail
  refine (Hsa.out _ (HV0.out.trans (HB.out.mono HV0.out.size))).mono ?_
  rintro e w5 ⟨⟨q1, rfl, hq1⟩, hb3⟩
  have HB : Hid (Below V.heap.size V w5) := bl_step hb3 HB.out
  have Hq1 := Lib.hid hq1
  clear a0 a1 a2 a3 b0 b1 b2 b3
  obtain ⟨a0, a1, a2, a3, b0, b1, b2, b3, -⟩ := S8.keep hv0 hv1 HS0.out HB.out
  clear hb3 hq1
  cases q1 with
  | false =>
    have HW : Hid (Below w.heap.size w w5) := HV0.out.trans (HB.out.mono HV0.out.size)
    go_wp2_with fail
    refine (works_ok _ (Ht.out.below HW.out)).mono ?_
    rintro e w9 ⟨rfl, hb9⟩
    go_wp2
    go_ret
    exact ⟨rfl, HW.out.trans (hb9.mono HW.out.size)⟩
  | true =>
  go_wp2_with fail
  refine (Hsb.out _ (HV0.out.trans (HB.out.mono HV0.out.size))).mono ?_
  rintro e w6 ⟨⟨q2, rfl, hq2⟩, hb3⟩
  have HB : Hid (Below V.heap.size V w6) := bl_step hb3 HB.out
  have Hq2 := Lib.hid hq2
  clear a0 a1 a2 a3 b0 b1 b2 b3
  obtain ⟨a0, a1, a2, a3, b0, b1, b2, b3, -⟩ := S8.keep hv0 hv1 HS0.out HB.out
  clear hb3 hq2
  have HW : Hid (Below w.heap.size w w6) := HV0.out.trans (HB.out.mono HV0.out.size)
  cases q2 with
  | false =>
    go_wp2_with fail
    refine (works_ok _ (Ht.out.below HW.out)).mono ?_
    rintro e w9 ⟨rfl, hb9⟩
    go_wp2
    go_ret
    exact ⟨rfl, HW.out.trans (hb9.mono HW.out.size)⟩
  | true =>
  by_cases i1 : s > s'
  · have d1 : decide (s > s') = true := decide_eq_true i1
    have d1n : decide (s' < s) = true := decide_eq_true i1
    clear i1
    go_wp2_with fail
    refine (works_ok _ (Ht.out.below HW.out)).mono ?_
    rintro e w9 ⟨rfl, hb9⟩
    go_wp2
    go_ret
    exact ⟨rfl, HW.out.trans (hb9.mono HW.out.size)⟩
  · have d1 : decide (s > s') = false := decide_eq_false i1
    have d1n : decide (s' < s) = false := decide_eq_false i1
    have i2 : t > t' := by
      have := Hno.out
      by_cases h : t ≤ t'
      · exact absurd ⟨Hq1.out.1 (by trivial), Hq2.out.1 (by trivial), by omega, h⟩ this
      · omega
    have d2 : decide (t > t') = true := decide_eq_true i2
    have d2n : decide (t' < t) = true := decide_eq_true i2
    clear i1 i2
    go_wp2_with fail
    refine (works_ok _ (Ht.out.below HW.out)).mono ?_
    rintro e w9 ⟨rfl, hb9⟩
    go_wp2
    go_ret
    exact ⟨rfl, HW.out.trans (hb9.mono HW.out.size)⟩

theorem fnBound_walk (s s' : Int) (ao : Option Addr) (l : List Int) (c : Nat) (ao' : Option Addr) (l' : List Int) (c' : Nat) (t t' : Int) (bo : Option Addr) (k : List Int) (d : Nat) (bo' : Option Addr) (k' : List Int) (d' : Nat) (w : World) (h : IntsAt w ao l) (h' : IntsAt w ao' l') (g : IntsAt w bo k) (g' : IntsAt w bo' k') (hT : Tabs w) :
    Calls Tryz.prog 3 #[.agg #[.int .i64 s, .slice ao l.length c, .int .i64 s', .slice ao' l'.length c'], .agg #[.int .i64 t, .slice bo k.length d, .int .i64 t', .slice bo' k'.length d']] w fun e w' => e = .returned (.bool true) ∧ Below w.heap.size w w' := by
  by_cases hp : (ProperL s l ∧ ProperL s' l') ∧ (ProperL t k ∧ ProperL t' k') ∧ s ≤ s' ∧ t ≤ t'
  · obtain ⟨hp1, hp2, hss, htt⟩ := hp
    obtain ⟨⟨x1, x2, x3, x4⟩, x1', x2', x3', x4'⟩ := id hp1
    obtain ⟨⟨y1, y2, y3, y4⟩, y1', y2', y3', y4'⟩ := id hp2
    obtain ⟨ns, rfl, z1, z2, _⟩ := grows_nats l (-1) (by omega) x4
    obtain ⟨ns', rfl, z1', z2', _⟩ := grows_nats l' (-1) (by omega) x4'
    obtain ⟨ks, rfl, u1, u2, _⟩ := grows_nats k (-1) (by omega) y4
    obtain ⟨ks', rfl, u1', u2', _⟩ := grows_nats k' (-1) (by omega) y4'
    obtain ⟨a, rfl⟩ : ∃ a : Nat, s = a := ⟨s.toNat, by omega⟩
    obtain ⟨a', rfl⟩ : ∃ a : Nat, s' = a := ⟨s'.toNat, by omega⟩
    obtain ⟨b, rfl⟩ : ∃ a : Nat, t = a := ⟨t.toNat, by omega⟩
    obtain ⟨b', rfl⟩ : ∃ a : Nat, t' = a := ⟨t'.toNat, by omega⟩
    have e1 : (ns.map Int.ofNat).length = ns.length := by simp
    have e2 : (ns'.map Int.ofNat).length = ns'.length := by simp
    have e3 : (ks.map Int.ofNat).length = ks.length := by simp
    have e4 : (ks'.map Int.ofNat).length = ks'.length := by simp
    rw [e1, e2, e3, e4]
    rw [e1] at x3
    rw [e2] at x3'
    rw [e3] at y3
    rw [e4] at y3'
    exact fnBound_proper a a' b b' (by omega) (by omega) (by omega) (by omega) (by omega) (by omega) ao ns c ao' ns' c' bo ks d bo' ks' d' w h h' g g' hp1 hp2 z1 z1' u1 u1' z2 z2' u2 u2' x3 x3' y3 y3' hT
  · exact fnBound_out s s' ao l c ao' l' c' t t' bo k d bo' k' d' w h h' g g' hT hp
end Go.Proofs.YtaloidnoeafgiaaGreatDoor
