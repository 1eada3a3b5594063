/- the law FnPort: its walk. -/
import Derived.Test.YtdmggcbbfljciaaDoorNPort4
namespace Go.Proofs.YtdmggcbbfljciaaDoor
open Go.RowKit Go.Lib

theorem numT_no_slash (a b : Nat) : (47 : UInt8) ∉ numT a b := by
  unfold numT
  split
  · exact no_slash a
  · intro h
    rcases List.mem_append.1 h with h | h
    · exact no_slash a h
    · rcases List.mem_cons.1 h with h | h
      · exact absurd h (by decide)
      · exact no_slash b h

theorem proto_size {p : ByteArray} (h : ProtoL p.data.toList) : p.size ≤ 4 ∧ p.data.toList ≠ [] := by
  rcases h with h | h | h <;> (rw [Lib.size_eq, h]; exact ⟨by decide, by simp⟩)

set_option maxRecDepth 100000 in
set_option maxHeartbeats 4000000 in
theorem fnPort_in (a b : Nat) (p : ByteArray) (hr : RightP a b p) (w : World) (hT : Tabs w) (hE : ErrAt w) :
    Calls Tryd.prog 4 #[.agg #[.int .i64 a, .int .i64 b, .string p]] w fun e w' => e = .returned (.bool true) ∧ Below w.heap.size w w' := by
  obtain ⟨h1, h2, h3, h4⟩ := id hr
  obtain ⟨hp4, hpne⟩ := proto_size h4
  have hab : a ≤ b := by omega
  have hb : b ≤ 65535 := by omega
  have Hr := Lib.hid hr
  have Hpne := Lib.hid hpne
  have Ht := Lib.hid hT
  have He := Lib.hid hE
  have hx := heap_alloc_new w (.cells #[.int .i64 a, .int .i64 b, .string p] 28)
  have c0 := row_cell (l := [.int .i64 a, .int .i64 b, .string p]) hx (j := 0) rfl
  have c1 := row_cell (l := [.int .i64 a, .int .i64 b, .string p]) hx (j := 1) rfl
  have c2 := row_cell (l := [.int .i64 a, .int .i64 b, .string p]) hx (j := 2) rfl
  have hlt : w.heap.size < (w.alloc (.cells #[.int .i64 a, .int .i64 b, .string p] 28)).heap.size := (Array.getElem?_eq_some_iff.1 hx).1
  have HX : Hid (Below w.heap.size w (w.alloc (.cells #[.int .i64 a, .int .i64 b, .string p] 28))) := (Below.refl _ _).alloc (Nat.le_refl _) _
  clear hr hpne hT hE hx h1 h2 h3 h4
  go_enter Tryd.func4, Tryd.ntmps4
  go_wp2_with fail
  refine (fits7 a b p _).mono ?_
  rintro e w3 ⟨⟨q, rfl, hq⟩, hb3⟩
  obtain rfl : q = true := hq.2 (by omega)
  have c0 := (hb3.cell (p := ⟨w.heap.size, 0, none⟩) hlt).trans c0
  have c1 := (hb3.cell (p := ⟨w.heap.size, 1, none⟩) hlt).trans c1
  have c2 := (hb3.cell (p := ⟨w.heap.size, 2, none⟩) hlt).trans c2
  have hlt := Nat.lt_of_lt_of_le hlt hb3.size
  have HX : Hid (Below w.heap.size w w3) := HX.out.trans (hb3.mono HX.out.size)
  clear hb3 hq
  go_wp2_with fail
  refine (right_any a b p _).mono ?_
  rintro e w3 ⟨⟨q, rfl, hq⟩, hb3⟩
  obtain rfl : q = true := hq.2 Hr.out
  have c0 := (hb3.cell (p := ⟨w.heap.size, 0, none⟩) hlt).trans c0
  have c1 := (hb3.cell (p := ⟨w.heap.size, 1, none⟩) hlt).trans c1
  have c2 := (hb3.cell (p := ⟨w.heap.size, 2, none⟩) hlt).trans c2
  have hlt := Nat.lt_of_lt_of_le hlt hb3.size
  have HX : Hid (Below w.heap.size w w3) := HX.out.trans (hb3.mono HX.out.size)
  clear hb3 hq
  go_wp2_with fail
  refine (ports_text a b p (by omega) (by omega) (by omega) _).mono ?_
  rintro e w3 ⟨t, rfl, ht, hb3⟩
  have c0 := (hb3.cell (p := ⟨w.heap.size, 0, none⟩) hlt).trans c0
  have c1 := (hb3.cell (p := ⟨w.heap.size, 1, none⟩) hlt).trans c1
  have c2 := (hb3.cell (p := ⟨w.heap.size, 2, none⟩) hlt).trans c2
  have hlt := Nat.lt_of_lt_of_le hlt hb3.size
  have HX : Hid (Below w.heap.size w w3) := HX.out.trans (hb3.mono HX.out.size)
  clear hb3
  have hnl := numT_len a b (by omega) hb
  have hts : t.size = (numT a b).length + (p.size + 1) := by rw [Lib.size_eq, ht.out, Lib.size_eq p]; simp
  have htz : t.size ≤ 1000000 := by omega
  obtain ⟨k, hk⟩ : ∃ k, k = (numT a b).length := ⟨_, rfl⟩
  obtain ⟨K, hK⟩ : ∃ K, K = k + 1 := ⟨_, rfl⟩
  have hnum : (t.extract 0 k).data.toList = numT a b := by
    rw [Lib.extract_data, ht.out, hk]; simp
  have Hnum := Lib.hid hnum
  have hw1 : IntKind.i64.wrap ((t.size : Int) - (p.size : Int)) = (K : Int) := by rw [IntKind.wrap_i64]; omega
  have hw2 : IntKind.i64.wrap ((K : Int) - 1) = (k : Int) := by rw [IntKind.wrap_i64]; omega
  have hk1 : (0 : Int) ≤ (k : Int) := by omega
  have hk2 : (k : Int) ≤ (t.size : Int) := by omega
  clear hnum hts hk hK hnl
  go_wp2_with fail
  refine (implSplit t p _ ht.out (numT_no_slash a b) (numT_ne a b) Hpne.out htz _).mono ?_
  rintro e w3 ⟨r, rfl, hr, hb3⟩
  obtain rfl : r = t.extract 0 k := bytes_ext (hr.out.trans Hnum.out.symm)
  have c0 := (hb3.cell (p := ⟨w.heap.size, 0, none⟩) hlt).trans c0
  have c1 := (hb3.cell (p := ⟨w.heap.size, 1, none⟩) hlt).trans c1
  have c2 := (hb3.cell (p := ⟨w.heap.size, 2, none⟩) hlt).trans c2
  have hlt := Nat.lt_of_lt_of_le hlt hb3.size
  have HX : Hid (Below w.heap.size w w3) := HX.out.trans (hb3.mono HX.out.size)
  clear hb3 hr
  go_wp2_with fail
  refine (implNew _ p a b Hnum.out hab hb (by omega) _ (Ht.out.below HX.out)).mono ?_
  rintro e w3 ⟨made, rfl, hmade, hb3⟩
  obtain rfl : made = t := bytes_ext (hmade.out.trans ht.out.symm)
  have c0 := (hb3.cell (p := ⟨w.heap.size, 0, none⟩) hlt).trans c0
  have c1 := (hb3.cell (p := ⟨w.heap.size, 1, none⟩) hlt).trans c1
  have c2 := (hb3.cell (p := ⟨w.heap.size, 2, none⟩) hlt).trans c2
  have hlt := Nat.lt_of_lt_of_le hlt hb3.size
  have HX : Hid (Below w.heap.size w w3) := HX.out.trans (hb3.mono HX.out.size)
  clear hb3 hmade
  go_wp2_with fail
  refine (portRangeImpl _ a b Hnum.out hab hb _).mono ?_
  rintro e w3 ⟨rfl, hb3⟩
  have c0 := (hb3.cell (p := ⟨w.heap.size, 0, none⟩) hlt).trans c0
  have c1 := (hb3.cell (p := ⟨w.heap.size, 1, none⟩) hlt).trans c1
  have c2 := (hb3.cell (p := ⟨w.heap.size, 2, none⟩) hlt).trans c2
  have hlt := Nat.lt_of_lt_of_le hlt hb3.size
  have HX : Hid (Below w.heap.size w w3) := HX.out.trans (hb3.mono HX.out.size)
  clear hb3
  go_wp2_with fail
  refine (implOf _ p a b ht.out (numT_no_slash a b) Hpne.out (by omega) hb htz _ (He.out.below HX.out)).mono ?_
  rintro e w3 ⟨r, rfl, hr, hb3⟩
  obtain rfl := bytes_ext (hr.out.trans Hnum.out.symm)
  have c0 := (hb3.cell (p := ⟨w.heap.size, 0, none⟩) hlt).trans c0
  have c1 := (hb3.cell (p := ⟨w.heap.size, 1, none⟩) hlt).trans c1
  have c2 := (hb3.cell (p := ⟨w.heap.size, 2, none⟩) hlt).trans c2
  have hlt := Nat.lt_of_lt_of_le hlt hb3.size
  have HX : Hid (Below w.heap.size w w3) := HX.out.trans (hb3.mono HX.out.size)
  clear hb3 hr
  by_cases h : a = b
  · have hio : intOf a b = a := by simp [intOf, h]
    have hnb : ((a : Int) != (b : Int)) = false := by simp; omega
    rw [hio]
    clear h hio
    go_wp2_with fail
    refine (works_ok _ (Ht.out.below HX.out)).mono ?_
    rintro e w3 ⟨rfl, hb3⟩
    go_wp2
    go_ret
    exact ⟨rfl, HX.out.trans (hb3.mono HX.out.size)⟩
  · have hnb : ((a : Int) != (b : Int)) = true := by simp; omega
    clear h
    go_wp2_with fail
    refine (works_ok _ (Ht.out.below HX.out)).mono ?_
    rintro e w3 ⟨rfl, hb3⟩
    go_wp2
    go_ret
    exact ⟨rfl, HX.out.trans (hb3.mono HX.out.size)⟩

set_option maxRecDepth 100000 in
set_option maxHeartbeats 2000000 in
theorem fnPort_walk (a b : Int) (p : ByteArray) (w : World) (hT : Tabs w) (hE : ErrAt w) :
    Calls Tryd.prog 4 #[.agg #[.int .i64 a, .int .i64 b, .string p]] w fun e w' => e = .returned (.bool true) ∧ Below w.heap.size w w' := by
  by_cases hr : RightP a b p
  · obtain ⟨h1, h2, h3, h4⟩ := id hr
    obtain ⟨k, rfl⟩ : ∃ k : Nat, a = k := ⟨a.toNat, by omega⟩
    obtain ⟨m, rfl⟩ : ∃ m : Nat, b = m := ⟨b.toNat, by omega⟩
    exact fnPort_in k m p hr w hT hE
  have Hr := Lib.hid hr
  have Ht := Lib.hid hT
  have hx := heap_alloc_new w (.cells #[.int .i64 a, .int .i64 b, .string p] 28)
  have c0 := row_cell (l := [.int .i64 a, .int .i64 b, .string p]) hx (j := 0) rfl
  have c1 := row_cell (l := [.int .i64 a, .int .i64 b, .string p]) hx (j := 1) rfl
  have c2 := row_cell (l := [.int .i64 a, .int .i64 b, .string p]) hx (j := 2) rfl
  have hlt : w.heap.size < (w.alloc (.cells #[.int .i64 a, .int .i64 b, .string p] 28)).heap.size := (Array.getElem?_eq_some_iff.1 hx).1
  have HX : Hid (Below w.heap.size w (w.alloc (.cells #[.int .i64 a, .int .i64 b, .string p] 28))) := (Below.refl _ _).alloc (Nat.le_refl _) _
  clear hr hT hE hx
  go_enter Tryd.func4, Tryd.ntmps4
  go_wp2_with fail
  refine (fits7 a b p _).mono ?_
  rintro e w3 ⟨⟨q, rfl, hq⟩, hb3⟩
  have c0 := (hb3.cell (p := ⟨w.heap.size, 0, none⟩) hlt).trans c0
  have c1 := (hb3.cell (p := ⟨w.heap.size, 1, none⟩) hlt).trans c1
  have c2 := (hb3.cell (p := ⟨w.heap.size, 2, none⟩) hlt).trans c2
  have hlt := Nat.lt_of_lt_of_le hlt hb3.size
  have HX : Hid (Below w.heap.size w w3) := HX.out.trans (hb3.mono HX.out.size)
  clear hb3 hq
  cases q
  · go_wp2
    go_ret
    exact ⟨rfl, HX.out⟩
  · go_wp2_with fail
    refine (right_any a b p _).mono ?_
    rintro e w3 ⟨⟨q, rfl, hq⟩, hb3⟩
    obtain rfl : q = false := by
      cases q with
      | false => rfl
      | true => exact absurd (hq.1 rfl) Hr.out
    have c0 := (hb3.cell (p := ⟨w.heap.size, 0, none⟩) hlt).trans c0
    have c1 := (hb3.cell (p := ⟨w.heap.size, 1, none⟩) hlt).trans c1
    have c2 := (hb3.cell (p := ⟨w.heap.size, 2, none⟩) hlt).trans c2
    have hlt := Nat.lt_of_lt_of_le hlt hb3.size
    have HX : Hid (Below w.heap.size w w3) := HX.out.trans (hb3.mono HX.out.size)
    clear hb3 hq
    go_wp2_with fail
    refine (works_ok _ (Ht.out.below HX.out)).mono ?_
    rintro e w3 ⟨rfl, hb3⟩
    go_wp2
    go_ret
    exact ⟨rfl, HX.out.trans (hb3.mono HX.out.size)⟩
end Go.Proofs.YtdmggcbbfljciaaDoor
