/- ZZRange: a range read and written. -/
import Derived.Test.YtdmggcbbfljciaaGreatDoorText
namespace Go.Proofs.YtdmggcbbfljciaaGreatDoor
open Go.RowKit

/-- a text is read as a range -/
def ReadsAs (s : ByteArray) (a c : Lvd) : Prop := ∀ w, Calls Tryz.prog 51 #[.string s] w fun e w' => ∃ rb, e = .returned (.tuple #[.pointer (some ⟨rb, 0, none⟩), .nilIface]) ∧ RgAt w' rb a c ∧ Below w.heap.size w w'

set_option maxRecDepth 100000 in
set_option maxHeartbeats 2000000 in
theorem zzrange (s : ByteArray) (a c : Lvd) (l k : List Nat) (hr : ReadsAs s a c) (ha : Mem a l) (hc : Mem c k) (hsa : a.sens ≤ 9999) (hsc : c.sens ≤ 9999) (w : World) (hT : Tabs w) :
    Calls Tryz.prog 37 #[.string s] w fun e w' => ∃ r : ByteArray, ∃ q : Bool, e = .returned (.tuple #[.string r, .nilIface]) ∧ EqIs q a c ∧ r.data.toList = rgT q a c l k ∧ Below w.heap.size w w' := by
  have Hr := Lib.hid hr
  have Ha := Lib.hid ha
  have Hc := Lib.hid hc
  have Ht := Lib.hid hT
  clear hr ha hc hT
  go_enter Tryz.func37, Tryz.ntmps37
  go_wp2_with fail
  refine (Hr.out _).mono ?_
  rintro e w2 ⟨rb, rfl, ⟨lb, hb, hrow, hla, hlc⟩, hb2⟩
  have Hla := Lib.hid hla
  have Hlc := Lib.hid hlc
  have Hb := Lib.hid hb2
  have c0 := row_cell (l := [.pointer (some ⟨lb, 0, none⟩), .pointer (some ⟨hb, 0, none⟩)]) hrow (j := 0) rfl
  have c1 := row_cell (l := [.pointer (some ⟨lb, 0, none⟩), .pointer (some ⟨hb, 0, none⟩)]) hrow (j := 1) rfl
  clear hla hlc hb2
  go_wp2_with fail
  refine (string_any lb hb a c l k Ha.out Hc.out _ Hla.out Hlc.out (Ht.out.below Hb.out) hsa hsc).mono ?_
  rintro e w3 ⟨r, q, rfl, hq, hr, hb3⟩
  have Hq := Lib.hid hq
  have Hr3 := Lib.hid hr
  have Hb3 : Hid (Below w.heap.size w w3) := Hb.out.trans (hb3.mono Hb.out.size)
  clear hq hr hb3
  go_wp2_with fail
  go_ret2
  exact ⟨_, _, rfl, Hq.out, Hr3.out, Hb3.out⟩
end Go.Proofs.YtdmggcbbfljciaaGreatDoor
