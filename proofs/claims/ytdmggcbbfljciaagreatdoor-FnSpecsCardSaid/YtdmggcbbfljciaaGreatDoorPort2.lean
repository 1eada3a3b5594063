/- a number that is no port. -/
import Derived.Test.YtdmggcbbfljciaaGreatDoorDec
namespace Go.Proofs.YtdmggcbbfljciaaGreatDoor
open Go.RowKit Go.Lib

theorem errorsNew (s : ByteArray) (w : World) :
    Calls Tryz.prog 41 #[.string s] w fun e w' => ∃ p : Nat, e = .returned (.iface 106 (.pointer (some ⟨p, 0, none⟩))) ∧ Below w.heap.size w w' := by
  go_enter Tryz.func41, Tryz.ntmps41
  go_wp2
  go_ret
  exact ⟨_, rfl, (Below.refl _ _).alloc (Nat.le_refl _) _⟩

set_option maxRecDepth 100000 in
set_option maxHeartbeats 2000000 in
theorem portNumber_big (s : ByteArray) (n : Nat) (hs : s.data.toList = decDigits n) (hn : 65535 < n) (hn2 : n ≤ 1073741824) (w : World) :
    Calls Tryz.prog 53 #[.string s] w fun e w' => ∃ p : Nat, e = .returned (.tuple #[.int .i64 0, .iface 106 (.pointer (some ⟨p, 0, none⟩))]) ∧ Below w.heap.size w w' := by
  have hne := str_some s (by rw [hs]; exact CL.dec_ne n)
  have hpi := Lib.hid (fun w => Tryz.strconv_ParseInt_10_at0_ok s (by have h1 := dec_len n; rw [Lib.size_eq, hs]; omega) n (by rw [hs]; exact CL.parseInt_dec n (by omega)) w)
  have hn0 : decide ((n : Int) < 0) = false := by simp
  have hn1 : decide ((n : Int) > 65535) = true := by simp; omega
  clear hs
  go_enter Tryz.func53, Tryz.ntmps53
  go_wp2_with fail
  refine (hpi.out _).mono ?_
  rintro e w2 ⟨rfl, hb⟩
  have hb2 : Hid (Below w.heap.size w w2) := by
    rcases hb with rfl | ⟨t, rfl⟩
    · exact Below.refl _ _
    · exact Joins.below_bytesWorld _ _ _ _ (Nat.le_refl _)
  clear hb
  go_wp2_with fail
  refine (errorsNew _ _).mono ?_
  rintro e w3 ⟨p, rfl, hb3⟩
  go_wp2
  go_ret2
  exact ⟨p, rfl, hb2.out.trans (hb3.mono hb2.out.size)⟩

set_option maxRecDepth 100000 in
set_option maxHeartbeats 2000000 in
theorem parsePort_big (s : ByteArray) (n : Nat) (hs : s.data.toList = decDigits n) (hn : 65535 < n) (hn2 : n ≤ 1073741824) (w : World) :
    Calls Tryz.prog 38 #[.string s] w fun e w' => ∃ p : Nat, e = .returned (.tuple #[.int .i64 0, .iface 106 (.pointer (some ⟨p, 0, none⟩))]) ∧ Below w.heap.size w w' := by
  have hne := str_some s (by rw [hs]; exact CL.dec_ne n)
  have hpi := Lib.hid (portNumber_big s n hs hn hn2)
  clear hs
  go_enter Tryz.func38, Tryz.ntmps38
  go_wp2_with fail
  refine (hpi.out _).mono ?_
  rintro e w2 ⟨p, rfl, hb⟩
  go_wp2
  go_ret2
  exact ⟨p, rfl, hb⟩

set_option maxRecDepth 100000 in
set_option maxHeartbeats 2000000 in
theorem number_big (s : ByteArray) (n : Nat) (hs : s.data.toList = decDigits n) (hn : 65535 < n) (hn2 : n ≤ 1073741824) (w : World) :
    Calls Tryz.prog 24 #[.string s] w fun e w' => e = .returned (.tuple #[.int .i64 0, .bool false]) ∧ Below w.heap.size w w' := by
  have hpi := Lib.hid (parsePort_big s n hs hn hn2)
  clear hs
  go_enter Tryz.func24, Tryz.ntmps24
  go_wp2_with fail
  refine (hpi.out _).mono ?_
  rintro e w2 ⟨p, rfl, hb⟩
  go_wp2
  go_quiet (fail)
  go_wp2
  go_ret2
  exact ⟨rfl, below_drewN hb _⟩
end Go.Proofs.YtdmggcbbfljciaaGreatDoor
