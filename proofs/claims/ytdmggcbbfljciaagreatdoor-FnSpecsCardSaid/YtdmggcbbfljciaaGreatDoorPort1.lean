/- a port's number. -/
import Derived.Test.YtdmggcbbfljciaaGreatDoorImplR
import Derived.Lib.SmallJoins
namespace Go.Proofs.YtdmggcbbfljciaaGreatDoor
open Go.RowKit Go.Lib

namespace CL
theorem parse_all (M : Nat) (n : Nat) (h63 : n < 2 ^ 63) : n ≤ M → parseUintM M 0 (decDigits n) = .ok n := by
  induction n using Nat.strongRecOn with
  | _ n ih =>
    intro hn
    rw [decDigits]
    split
    · rename_i h
      unfold parseUintM
      rw [dg_of n h, if_pos (by omega), if_neg (by omega), if_neg (by omega)]
      unfold parseUintM
      congr 1; omega
    · rename_i h
      rw [parse_append M _ _ 0 (n / 10) (ih _ (by omega) (by omega) (by omega))]
      unfold parseUintM
      rw [dg_of _ (Nat.mod_lt _ (by decide)), if_pos (by omega), if_neg (by omega), if_neg (by omega)]
      unfold parseUintM
      congr 1; omega

theorem parseInt_dec (n : Nat) (h : n < 2 ^ 63) : parseIntB 64 (decDigits n) = .ok (n : Int) := by
  have hd := dec_digits n
  cases hx : decDigits n with
  | nil => exact absurd hx (dec_ne n)
  | cons c r =>
    have hc : Dg c := hd c (by rw [hx]; exact List.mem_cons_self)
    unfold Dg at hc
    unfold parseIntB
    have h1 : ¬ (c.toNat = 43 ∨ c.toNat = 45) := by omega
    have h2 : parseUintB 64 (c :: r) = .ok n := by
      unfold parseUintB
      rw [if_neg (by simp), ← hx]
      exact parse_all _ n h (by omega)
    have h3 : ¬ c.toNat = 45 := by omega
    dsimp only
    rw [if_neg h1, h2]
    dsimp only
    rw [if_neg (by omega), if_neg (by intro e; exact h3 e.1), if_neg h3]
end CL

/-- a text is a number in figures -/
theorem size_dec (n : Nat) (h : n ≤ 1000000000) (s : ByteArray) (hs : s.data.toList = decDigits n) : s.size ≤ 1000000001 := by
  have h1 := dec_len n
  rw [Lib.size_eq, hs]
  omega

set_option maxRecDepth 100000 in
set_option maxHeartbeats 2000000 in
theorem portNumber_ok (s : ByteArray) (n : Nat) (hs : s.data.toList = decDigits n) (hn : n ≤ 65535) (w : World) :
    Calls Tryz.prog 53 #[.string s] w fun e w' => e = .returned (.tuple #[.int .i64 n, .nilIface]) ∧ Below w.heap.size w w' := by
  have hne := str_some s (by rw [hs]; exact CL.dec_ne n)
  have hpi := Lib.hid (fun w => Tryz.strconv_ParseInt_10_at0_ok s (by have := size_dec n (by omega) s hs; omega) n (by rw [hs]; exact CL.parseInt_dec n (by omega)) w)
  have hw : IntKind.i64.wrap n = (n : Int) := by rw [IntKind.wrap_i64]; omega
  have hn0 : decide ((n : Int) < 0) = false := by simp
  have hn1 : decide ((n : Int) > 65535) = false := by simp; omega
  clear hs
  go_enter Tryz.func53, Tryz.ntmps53
  go_wp2_with fail
  refine (hpi.out _).mono ?_
  rintro e w2 ⟨rfl, hb⟩
  have hb2 : Hid (Below w.heap.size w w2) := by
    rcases hb with rfl | ⟨t, rfl⟩
    · exact Below.refl _ _
    · exact Joins.below_bytesWorld _ _ _ _ (Nat.le_refl _)
  clear hb
  go_wp2_with fail
  go_ret2
  exact ⟨rfl, hb2.out⟩

set_option maxRecDepth 100000 in
set_option maxHeartbeats 2000000 in
theorem parsePort_ok (s : ByteArray) (n : Nat) (hs : s.data.toList = decDigits n) (hn : n ≤ 65535) (w : World) :
    Calls Tryz.prog 38 #[.string s] w fun e w' => e = .returned (.tuple #[.int .i64 n, .nilIface]) ∧ Below w.heap.size w w' := by
  have hne := str_some s (by rw [hs]; exact CL.dec_ne n)
  have hpi := Lib.hid (portNumber_ok s n hs hn)
  clear hs
  go_enter Tryz.func38, Tryz.ntmps38
  go_wp2_with fail
  refine (hpi.out _).mono ?_
  rintro e w2 ⟨rfl, hb⟩
  go_wp2_with fail
  go_ret2
  exact ⟨rfl, hb⟩

set_option maxRecDepth 100000 in
set_option maxHeartbeats 2000000 in
theorem number_ok (s : ByteArray) (n : Nat) (hs : s.data.toList = decDigits n) (hn : n ≤ 65535) (w : World) :
    Calls Tryz.prog 24 #[.string s] w fun e w' => e = .returned (.tuple #[.int .i64 n, .bool true]) ∧ Below w.heap.size w w' := by
  have hpi := Lib.hid (parsePort_ok s n hs hn)
  clear hs
  go_enter Tryz.func24, Tryz.ntmps24
  go_wp2_with fail
  refine (hpi.out _).mono ?_
  rintro e w2 ⟨rfl, hb⟩
  go_wp2
  go_quiet (fail)
  go_wp2
  go_ret2
  exact ⟨rfl, below_drewN hb _⟩
end Go.Proofs.YtdmggcbbfljciaaGreatDoor
