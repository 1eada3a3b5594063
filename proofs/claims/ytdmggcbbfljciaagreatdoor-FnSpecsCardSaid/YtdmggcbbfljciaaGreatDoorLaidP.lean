/- what the rows' lists give the walks: the listed tables (with the pinned ones). -/
import Derived.Test.YtdmggcbbfljciaaGreatDoorRows
import Derived.Test.YtdmggcbbfljciaaGreatDoorBig1
import Derived.ProofKit
import Derived.LaidMore
import Derived.MakeChecks
import Derived.Stop.Joined
namespace Go.Proofs.YtdmggcbbfljciaaGreatDoor
open Go.RowKit

def laids : List (String × DataW Unit) := [("math/bits.deBruijn32tab", Rows.laid_math_bits_deBruijn32tab), ("math/bits.deBruijn64tab", Rows.laid_math_bits_deBruijn64tab), ("internal/strconv.uint64pow10", Rows.laid_internal_strconv_uint64pow10), ("unicode/utf8.acceptRanges", Rows.laid_unicode_utf8_acceptRanges), ("strconv.ErrRange", Rows.laid_strconv_ErrRange), ("strconv.ErrSyntax", Rows.laid_strconv_ErrSyntax), ("unicode.CaseRanges", Rows.laid_unicode_CaseRanges), ("unicode/utf8.first", Rows.laid_unicode_utf8_first)]

theorem gtz : Tryz.prog.globalNamed "math/bits.deBruijn64tab" = some 8 := by kernel_rfl
theorem ttz : (Tryz.prog.globals[8]?).map (·.type) = some 242 := by kernel_rfl
theorem tpow : (Tryz.prog.globals[4]?).map (·.type) = some 225 := by kernel_rfl
theorem dtz : (Rows.laid_math_bits_deBruijn64tab : DataW Unit) = Lib.tabData .u8 (Lib.deBruijn64tab.map Int.ofNat) := by kernel_rfl
theorem dpow : (Rows.laid_internal_strconv_uint64pow10 : DataW Unit) = Lib.tabData .u64 Lib.pow10Tab := by kernel_rfl

theorem tabs_of_laid {W : World} (h : laidMetH Tryz.prog laids W) : Tabs W := by
  rw [MakeChecks.laidMetH_plain _ _ _ (by kernel_rfl)] at h
  obtain ⟨ps, ⟨g0, t0, cs0, f0, p0, q0, hg0, ht0, hv0, hd0, ⟨g1, t1, cs1, f1, p1, q1, hg1, ht1, hv1, hd1, ⟨g2, t2, cs2, f2, p2, q2, hg2, ht2, hv2, hd2, _, _⟩, _⟩, _⟩, _, _⟩ := h
  obtain rfl := Option.some.inj (gtz.symm.trans hg1)
  obtain rfl := Option.some.inj (ttz.symm.trans ht1)
  obtain rfl := Option.some.inj (gpow.symm.trans hg2)
  obtain rfl := Option.some.inj (tpow.symm.trans ht2)
  rw [dtz] at hd1
  rw [dpow] at hd2
  have e1 := Lib.cells_of_tab (e := 5) (n := 64) (by kernel_rfl) (by kernel_rfl) (by kernel_rfl) (by kernel_rfl) hd1
  have e2 := Lib.cells_of_tab (e := 119) (n := 20) (by kernel_rfl) (by kernel_rfl) (by kernel_rfl) (by kernel_rfl) hd2
  have h1 : Lib.TabIs Tryz.prog W "math/bits.deBruijn64tab" .u8 (Lib.deBruijn64tab.map Int.ofNat) := by
    unfold Lib.TabIs; rw [hv1, ← e1]
  have h2 : Lib.TabIs Tryz.prog W "internal/strconv.uint64pow10" .u64 Lib.pow10Tab := by
    unfold Lib.TabIs; rw [hv2, ← e2]
  refine ⟨h2, fun j hj => ?_⟩
  rw [h1.cell gtz j (by simpa using hj)]
  simp [List.getD, List.getElem?_map, List.getElem?_eq_getElem hj]

end Go.Proofs.YtdmggcbbfljciaaGreatDoor
