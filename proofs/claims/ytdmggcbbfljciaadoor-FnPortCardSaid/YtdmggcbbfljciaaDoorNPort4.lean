/- spec.Ports.Text; the law FnPort: its walk on right ports. -/
import Derived.Test.YtdmggcbbfljciaaDoorNPort3
namespace Go.Proofs.YtdmggcbbfljciaaDoor
open Go.RowKit Go.Lib

set_option maxRecDepth 100000 in
set_option maxHeartbeats 16000000 in
theorem ports_text (a b : Nat) (p : ByteArray) (ha : a ≤ 1000000000) (hb : b ≤ 1000000000) (hp : p.size ≤ 1000) (w : World) :
    Calls Tryd.prog 10 #[.agg #[.int .i64 a, .int .i64 b, .string p]] w fun e w' => ∃ r : ByteArray, e = .returned (.string r) ∧ Hid (r.data.toList = numT a b ++ 47 :: p.data.toList) ∧ Below w.heap.size w w' := by
  have hx := heap_alloc_new w (.cells #[.int .i64 a, .int .i64 b, .string p] 28)
  have c0 := row_cell (l := [.int .i64 a, .int .i64 b, .string p]) hx (j := 0) rfl
  have c1 := row_cell (l := [.int .i64 a, .int .i64 b, .string p]) hx (j := 1) rfl
  have c2 := row_cell (l := [.int .i64 a, .int .i64 b, .string p]) hx (j := 2) rfl
  have hlt : w.heap.size < (w.alloc (.cells #[.int .i64 a, .int .i64 b, .string p] 28)).heap.size := (Array.getElem?_eq_some_iff.1 hx).1
  have HX : Hid (Below w.heap.size w (w.alloc (.cells #[.int .i64 a, .int .i64 b, .string p] 28))) := (Below.refl _ _).alloc (Nat.le_refl _) _
  have ha2 : a ≤ 1073741824 := by omega
  have hb2 : b ≤ 1073741824 := by omega
  clear hx
  by_cases h : a = b
  · have hq : ((a : Int) == (b : Int)) = true := by simp; omega
    have H := Lib.hid h
    clear h
    go_enter Tryd.func10, Tryd.ntmps10
    go_wp2
    go_region_with ((go_at_call 17; refine (decimal_any _ (by with_reducible assumption) _).mono ?_; rintro e w3 ⟨r, rfl, hr, hb3⟩; have hz := size_dec _ (by with_reducible assumption) r hr.out; (first | have hrA : Hid (r.data.toList = decDigits a) := (by with_reducible exact hr) | have hrB : Hid (r.data.toList = decDigits b) := (by with_reducible exact hr)); have c0 := (hb3.cell (p := ⟨w.heap.size, 0, none⟩) hlt).trans c0; have c1 := (hb3.cell (p := ⟨w.heap.size, 1, none⟩) hlt).trans c1; have c2 := (hb3.cell (p := ⟨w.heap.size, 2, none⟩) hlt).trans c2; have hlt := Nat.lt_of_lt_of_le hlt hb3.size; have HX : Hid (Below w.heap.size w w3) := (by first | exact HX.out.trans (hb3.mono HX.out.size) | exact HX.out.drew.trans (hb3.mono HX.out.size))))
    all_goals go_wp2
    all_goals go_ret
    all_goals
      refine ⟨_, rfl, ?_, HX.out⟩
      show _ = _
      rw [app_bytes, app_bytes, hrA.out, numT, if_pos H.out]
      simp
  · have hq : ((a : Int) == (b : Int)) = false := by simp; omega
    have H := Lib.hid h
    clear h
    go_enter Tryd.func10, Tryd.ntmps10
    go_wp2
    go_region_with ((go_at_call 17; refine (decimal_any _ (by with_reducible assumption) _).mono ?_; rintro e w3 ⟨r, rfl, hr, hb3⟩; have hz := size_dec _ (by with_reducible assumption) r hr.out; (first | have hrA : Hid (r.data.toList = decDigits a) := (by with_reducible exact hr) | have hrB : Hid (r.data.toList = decDigits b) := (by with_reducible exact hr)); have c0 := (hb3.cell (p := ⟨w.heap.size, 0, none⟩) hlt).trans c0; have c1 := (hb3.cell (p := ⟨w.heap.size, 1, none⟩) hlt).trans c1; have c2 := (hb3.cell (p := ⟨w.heap.size, 2, none⟩) hlt).trans c2; have hlt := Nat.lt_of_lt_of_le hlt hb3.size; have HX : Hid (Below w.heap.size w w3) := (by first | exact HX.out.trans (hb3.mono HX.out.size) | exact HX.out.drew.trans (hb3.mono HX.out.size))))
    all_goals go_wp2
    all_goals go_ret
    all_goals
      refine ⟨_, rfl, ?_, HX.out⟩
      show _ = _
      rw [app_bytes, app_bytes, app_bytes, app_bytes, hrA.out, hrB.out, numT, if_neg H.out]
      simp
end Go.Proofs.YtdmggcbbfljciaaDoor
