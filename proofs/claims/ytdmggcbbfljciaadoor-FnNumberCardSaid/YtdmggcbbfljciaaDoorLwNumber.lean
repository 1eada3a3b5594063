/- the law FnNumber: its walk. -/
import Derived.Test.YtdmggcbbfljciaaDoorPort2
namespace Go.Proofs.YtdmggcbbfljciaaDoor
open Go.RowKit Go.Lib

theorem decimalDoor (n : Nat) (hn : n ≤ 1073741824) (w : World) :
    Calls Tryd.prog 7 #[.int .i64 n] w fun e w' => ∃ r : ByteArray, e = .returned (.string r) ∧ Hid (r.data.toList = decDigits n) ∧ Below w.heap.size w w' := by
  have hd := Lib.hid (decimal_any n hn)
  go_enter Tryd.func7, Tryd.ntmps7
  go_wp2_with fail
  refine (hd.out _).mono ?_
  rintro e w2 ⟨r, rfl, hr, hb⟩
  go_wp2
  go_ret
  exact ⟨r, rfl, hr, hb⟩

set_option maxRecDepth 100000 in
set_option maxHeartbeats 2000000 in
theorem fnNumber_out (n : Int) (hn : n < 0 ∨ 1073741824 < n) (w : World) (hT : Tabs w) :
    Calls Tryd.prog 3 #[.int .i64 n] w fun e w' => e = .returned (.bool true) ∧ Below w.heap.size w w' := by
  have hw := Lib.hid (works_ok w hT)
  clear hT
  by_cases h0 : n < 0
  · have h1 : decide (n < 0) = true := by simp; omega
    clear hn
    go_enter Tryd.func3, Tryd.ntmps3
    go_wp2_with fail
    refine hw.out.mono ?_
    rintro e w2 ⟨rfl, hb⟩
    go_wp2
    go_ret
    exact ⟨rfl, hb⟩
  · have h1 : decide (n < 0) = false := by simp; omega
    have h2 : decide (n > 1073741824) = true := by simp; omega
    clear hn
    go_enter Tryd.func3, Tryd.ntmps3
    go_wp2_with fail
    refine hw.out.mono ?_
    rintro e w2 ⟨rfl, hb⟩
    go_wp2
    go_ret
    exact ⟨rfl, hb⟩

set_option maxRecDepth 100000 in
set_option maxHeartbeats 2000000 in
theorem fnNumber_port (n : Nat) (hn : n ≤ 65535) (w : World) (hT : Tabs w) :
    Calls Tryd.prog 3 #[.int .i64 n] w fun e w' => e = .returned (.bool true) ∧ Below w.heap.size w w' := by
  have h1 : decide ((n : Int) < 0) = false := by simp
  have h2 : decide ((n : Int) > 1073741824) = false := by simp; omega
  have h3 : decide ((n : Int) ≤ 65535) = true := by simp; omega
  have hd := Lib.hid (decimalDoor n (by omega))
  have hnn := Lib.hid (fun s hs => number_ok s n hs hn)
  have Ht := Lib.hid hT
  clear hT
  go_enter Tryd.func3, Tryd.ntmps3
  go_wp2_with fail
  refine (hd.out _).mono ?_
  rintro e w2 ⟨r, rfl, hr, hb⟩
  go_wp2_with fail
  refine (hnn.out r hr.out _).mono ?_
  rintro e w3 ⟨rfl, hb3⟩
  have Hb : Hid (Below w.heap.size w w3) := hb.trans (hb3.mono hb.size)
  clear hb hb3
  go_wp2_with fail
  refine (works_ok _ (Ht.out.below Hb.out)).mono ?_
  rintro e w4 ⟨rfl, hb4⟩
  go_wp2
  go_ret
  exact ⟨rfl, Hb.out.trans (hb4.mono Hb.out.size)⟩

set_option maxRecDepth 100000 in
set_option maxHeartbeats 2000000 in
theorem fnNumber_big (n : Nat) (hn : 65535 < n) (hn2 : n ≤ 1073741824) (w : World) (hT : Tabs w) :
    Calls Tryd.prog 3 #[.int .i64 n] w fun e w' => e = .returned (.bool true) ∧ Below w.heap.size w w' := by
  have h1 : decide ((n : Int) < 0) = false := by simp
  have h2 : decide ((n : Int) > 1073741824) = false := by simp; omega
  have h3 : decide ((n : Int) ≤ 65535) = false := by simp; omega
  have hd := Lib.hid (decimalDoor n (by omega))
  have hnn := Lib.hid (fun s hs => number_big s n hs hn hn2)
  have Ht := Lib.hid hT
  clear hT
  go_enter Tryd.func3, Tryd.ntmps3
  go_wp2_with fail
  refine (hd.out _).mono ?_
  rintro e w2 ⟨r, rfl, hr, hb⟩
  go_wp2_with fail
  refine (hnn.out r hr.out _).mono ?_
  rintro e w3 ⟨rfl, hb3⟩
  have Hb : Hid (Below w.heap.size w w3) := hb.trans (hb3.mono hb.size)
  clear hb hb3
  go_wp2_with fail
  refine (works_ok _ (Ht.out.below Hb.out)).mono ?_
  rintro e w4 ⟨rfl, hb4⟩
  go_wp2
  go_ret
  exact ⟨rfl, Hb.out.trans (hb4.mono Hb.out.size)⟩

theorem fnNumber_walk (n : Int) (w : World) (hT : Tabs w) :
    Calls Tryd.prog 3 #[.int .i64 n] w fun e w' => e = .returned (.bool true) ∧ Below w.heap.size w w' := by
  by_cases h : n < 0 ∨ 1073741824 < n
  · exact fnNumber_out n h w hT
  · obtain ⟨k, rfl⟩ : ∃ k : Nat, n = k := ⟨n.toNat, by omega⟩
    by_cases hk : k ≤ 65535
    · exact fnNumber_port k hk w hT
    · exact fnNumber_big k (by omega) (by omega) w hT
end Go.Proofs.YtdmggcbbfljciaaDoor
