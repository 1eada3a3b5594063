/- dockernat.parsePortRange. -/
import Derived.Test.YtdmggcbbfljciaaGreatDoorNCut
namespace Go.Proofs.YtdmggcbbfljciaaGreatDoor
open Go.RowKit Go.Lib

/-- the text of a range of numbers -/
def numT (a b : Nat) : List UInt8 := if a = b then decDigits a else decDigits a ++ 45 :: decDigits b

theorem dec_inj (a b : Nat) (ha : a ≤ 1073741824) (hb : b ≤ 1073741824) (h : decDigits a = decDigits b) : a = b := by
  have h1 := CL.parseInt_dec a (by omega)
  have h2 := CL.parseInt_dec b (by omega)
  rw [h, h2] at h1
  simp only [NumEnd.ok.injEq] at h1
  omega

theorem no_minus (n : Nat) : (45 : UInt8) ∉ decDigits n := CL.dec_no n 45 (CL.not_dg 45 (by omega))
theorem no_slash (n : Nat) : (47 : UInt8) ∉ decDigits n := CL.dec_no n 47 (CL.not_dg 47 (by omega))

theorem bytes_neq {x y : ByteArray} (h : x.data.toList ≠ y.data.toList) : (x.toList == y.toList) = false := by
  rw [ByteArray.toList_eq, ByteArray.toList_eq]
  exact beq_eq_false_iff_ne.2 h

theorem size_le5 {s : ByteArray} {n : Nat} (hs : s.data.toList = decDigits n) (h : n ≤ 65535) : s.size ≤ 65536 := by
  have := dec_len n
  rw [Lib.size_eq, hs]; omega

set_option maxRecDepth 100000 in
set_option maxHeartbeats 2000000 in
theorem portRange_one (s : ByteArray) (a : Nat) (hs : s.data.toList = decDigits a) (ha : a ≤ 65535) (w : World) :
    Calls Tryz.prog 46 #[.string s] w fun e w' => e = .returned (.tuple #[.int .i64 a, .int .i64 a, .nilIface]) ∧ Below w.heap.size w w' := by
  have hne := str_some s (by rw [hs]; exact CL.dec_ne a)
  have hsz := size_le5 hs ha
  have hcm := Lib.hid (ncut_miss s 45 (by rw [hs]; exact no_minus a) (by omega))
  have hpn := Lib.hid (portNumber_ok s a hs ha)
  clear hs
  go_enter Tryz.func46, Tryz.ntmps46
  go_wp2_with fail
  refine (hcm.out _).mono ?_
  rintro e w2 ⟨rfl, hb2⟩
  go_wp2_with fail
  refine (hpn.out _).mono ?_
  rintro e w3 ⟨rfl, hb3⟩
  go_wp2
  go_ret3
  exact ⟨rfl, hb2.trans (hb3.mono hb2.size)⟩

set_option maxRecDepth 100000 in
set_option maxHeartbeats 2000000 in
theorem portRange_two (s : ByteArray) (a b : Nat) (hs : s.data.toList = decDigits a ++ 45 :: decDigits b) (ha : a < b) (hb : b ≤ 65535) (w : World) :
    Calls Tryz.prog 46 #[.string s] w fun e w' => e = .returned (.tuple #[.int .i64 a, .int .i64 b, .nilIface]) ∧ Below w.heap.size w w' := by
  have hne := str_some s (by rw [hs]; simp)
  have hsz : s.size ≤ 200000 := by
    have h1 := dec_len a
    have h2 := dec_len b
    rw [Lib.size_eq, hs]; simp; omega
  have hcm := Lib.hid (ncut_hit s 45 _ _ hs (no_minus a) (by omega))
  have hlt : decide ((b : Int) < (a : Int)) = false := by simp; omega
  clear hs
  go_enter Tryz.func46, Tryz.ntmps46
  go_wp2_with fail
  refine (hcm.out _).mono ?_
  rintro e w2 ⟨r1, r2, rfl, hr1, hr2, hb2⟩
  have hp1 := Lib.hid (portNumber_ok r1 a hr1.out (by omega))
  have hp2 := Lib.hid (portNumber_ok r2 b hr2.out hb)
  have hneq := bytes_neq (x := r1) (y := r2) (by rw [hr1.out, hr2.out]; exact fun e => by have := dec_inj a b (by omega) (by omega) e; omega)
  have hneq2 : r1.toList ≠ r2.toList := fun e => by rw [e] at hneq; simp at hneq
  go_wp2_with fail
  refine (hp1.out _).mono ?_
  rintro e w3 ⟨rfl, hb3⟩
  go_wp2_with fail
  refine (hp2.out _).mono ?_
  rintro e w4 ⟨rfl, hb4⟩
  go_wp2
  go_ret3
  exact ⟨rfl, (hb2.trans (hb3.mono hb2.size)).trans (hb4.mono (Nat.le_trans hb2.size hb3.size))⟩

set_option maxRecDepth 100000 in
set_option maxHeartbeats 2000000 in
theorem portRange_back (s : ByteArray) (a b : Nat) (hs : s.data.toList = decDigits a ++ 45 :: decDigits b) (ha : b < a) (hb : a ≤ 65535) (w : World) :
    Calls Tryz.prog 46 #[.string s] w fun e w' => ∃ p : Nat, e = .returned (.tuple #[.int .i64 0, .int .i64 0, .iface 106 (.pointer (some ⟨p, 0, none⟩))]) ∧ Below w.heap.size w w' := by
  have hne := str_some s (by rw [hs]; simp)
  have hsz : s.size ≤ 200000 := by
    have h1 := dec_len a
    have h2 := dec_len b
    rw [Lib.size_eq, hs]; simp; omega
  have hcm := Lib.hid (ncut_hit s 45 _ _ hs (no_minus a) (by omega))
  have hlt : decide ((b : Int) < (a : Int)) = true := by simp; omega
  clear hs
  go_enter Tryz.func46, Tryz.ntmps46
  go_wp2_with fail
  refine (hcm.out _).mono ?_
  rintro e w2 ⟨r1, r2, rfl, hr1, hr2, hb2⟩
  have hp1 := Lib.hid (portNumber_ok r1 a hr1.out (by omega))
  have hp2 := Lib.hid (portNumber_ok r2 b hr2.out (by omega))
  have hneq := bytes_neq (x := r1) (y := r2) (by rw [hr1.out, hr2.out]; exact fun e => by have := dec_inj a b (by omega) (by omega) e; omega)
  have hneq2 : r1.toList ≠ r2.toList := fun e => by rw [e] at hneq; simp at hneq
  go_wp2_with fail
  refine (hp1.out _).mono ?_
  rintro e w3 ⟨rfl, hb3⟩
  go_wp2_with fail
  refine (hp2.out _).mono ?_
  rintro e w4 ⟨rfl, hb4⟩
  go_wp2_with fail
  refine (errorsNew _ _).mono ?_
  rintro e w5 ⟨p, rfl, hb5⟩
  go_wp2
  go_ret3
  have h34 := (hb2.trans (hb3.mono hb2.size)).trans (hb4.mono (Nat.le_trans hb2.size hb3.size))
  exact ⟨p, rfl, h34.trans (hb5.mono h34.size)⟩

theorem portRange_any (s : ByteArray) (a b : Nat) (hs : s.data.toList = numT a b) (ha : a ≤ b) (hb : b ≤ 65535) (w : World) :
    Calls Tryz.prog 46 #[.string s] w fun e w' => e = .returned (.tuple #[.int .i64 a, .int .i64 b, .nilIface]) ∧ Below w.heap.size w w' := by
  by_cases h : a = b
  · subst h
    exact portRange_one s a (by rw [hs, numT, if_pos rfl]) hb w
  · exact portRange_two s a b (by rw [hs, numT, if_neg h]) (by omega) hb w
end Go.Proofs.YtdmggcbbfljciaaGreatDoor
