/- parseLevelItem at a numeral behind its sign. -/
import Derived.Test.YtdmggcbbfljciaaGreatDoorPu31
namespace Go.Proofs.YtdmggcbbfljciaaGreatDoor
open Go.RowKit

theorem extract1 (s : ByteArray) (c : UInt8) (l : List UInt8) (h : s.data.toList = c :: l) : (s.extract 1 s.size).data.toList = l := by
  rw [Lib.extract_data, sz, h]; simp

set_option maxRecDepth 100000 in
theorem item_any (s : ByteArray) (c : UInt8) (C : Int) (hC : C = c.toNat) (n : Nat) (hs : s.data.toList = c :: Lib.decDigits n) (hn : n < 2147483648) (hl : s.size ≤ 1000000) (w : World) :
    Calls Tryz.prog 104 #[.string s, .int .u8 C] w fun e w' => e = .returned (.tuple #[.int .i64 n, .nilIface]) ∧ Below w.heap.size w w' := by
  have hlen : 2 ≤ s.size := by
    rw [sz, hs]; have := List.length_pos_iff.2 (CL.dec_ne n); simp; omega
  have hb0 : ∀ h : 0 < s.size, s[0].toNat = c.toNat := by
    intro h
    have e : s[0] = s.data.toList[0]'(by rw [← sz]; exact h) := rfl
    rw [e]
    simp only [hs, List.getElem_cons_zero]
  subst hC
  have hc := Lib.hid (parseUint31 (s.extract 1 s.size) n (extract1 s c _ hs) hn (by rw [sz]; rw [sz] at hl; rw [extract1 s c _ hs]; rw [hs] at hl; simp at hl; omega))
  clear hs
  go_enter Tryz.func104, Tryz.ntmps104
  go_wp2_with fail
  refine (hc.out _).mono ?_
  rintro e w1 ⟨rfl, hb⟩
  go_wp2_with fail
  go_ret2
  exact ⟨rfl, hb⟩
end Go.Proofs.YtdmggcbbfljciaaGreatDoor
