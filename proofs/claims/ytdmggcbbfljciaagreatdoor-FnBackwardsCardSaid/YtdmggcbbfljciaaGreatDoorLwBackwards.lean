/- the law FnBackwards: its walk. -/
import Derived.Test.YtdmggcbbfljciaaGreatDoorNBack
import Derived.Test.YtdmggcbbfljciaaGreatDoorFourth
namespace Go.Proofs.YtdmggcbbfljciaaGreatDoor
open Go.RowKit Go.Lib

set_option maxRecDepth 100000 in
theorem decimal_pub (n : Nat) (hn : n ≤ 1073741824) (w : World) : Calls Tryz.prog 14 #[.int .i64 n] w fun e w' => e = .returned (.string (tx (decDigits n))) ∧ Below w.heap.size w w' := by
  go_enter Tryz.func14, Tryz.ntmps14
  go_wp2_with fail
  refine (dec_tx n hn _).mono ?_
  rintro e w2 ⟨rfl, hb2⟩
  go_wp2_with fail
  go_ret
  exact ⟨rfl, hb2⟩

set_option maxRecDepth 100000 in
set_option maxHeartbeats 4000000 in
theorem fnBackwards_in (a b : Nat) (h1 : 1 ≤ b) (h2 : b < a) (h3 : a ≤ 65535) (w : World) (hT : Tabs w) :
    Calls Tryz.prog 4 #[.int .i64 a, .int .i64 b] w fun e w' => e = .returned (.bool true) ∧ Below w.heap.size w w' := by
  have d1 : decide ((b : Int) < 1) = false := decide_eq_false (by omega)
  have d2 : decide ((a : Int) ≤ (b : Int)) = false := decide_eq_false (by omega)
  have d2n : decide (a ≤ b) = false := decide_eq_false (by omega)
  have d3 : decide ((a : Int) > 65535) = false := decide_eq_false (by omega)
  have z1 := tx_dec_size a h3
  have z2 := tx_dec_size b (by omega)
  have Ht := Lib.hid hT
  have hst : (tx (decDigits a) ++ (⟨#[45]⟩ : ByteArray) ++ tx (decDigits b)).data.toList = decDigits a ++ 45 :: decDigits b := by rw [app_bytes, app_bytes, tx_list, tx_list]; simp
  have Hp := Lib.hid (portRangeImpl_back _ a b hst h2 h3)
  have hst2 : (tx (decDigits a) ++ (⟨#[45]⟩ : ByteArray) ++ tx (decDigits b) ++ (⟨#[47, 116, 99, 112]⟩ : ByteArray)).data.toList = decDigits a ++ 45 :: decDigits b ++ [47, 116, 99, 112] := by rw [app_bytes, hst]
  have Hs := Lib.hid (implSpec_none _ (portSpec_back _ a b hst2 h2 h3))
  have ez : (tx (decDigits a) ++ (⟨#[45]⟩ : ByteArray) ++ tx (decDigits b)).size ≤ 131073 := by
    rw [ByteArray.size_append, ByteArray.size_append]
    show _ + 1 + _ ≤ _
    omega
  have Hd1 := Lib.hid (decimal_pub a (by omega))
  have Hd2 := Lib.hid (decimal_pub b (by omega))
  clear h1 h2 h3 hT hst hst2
  go_enter Tryz.func4, Tryz.ntmps4
  go_wp2_with fail
  refine (Hd1.out _).mono ?_
  rintro e w2 ⟨rfl, hb2⟩
  go_wp2_with fail
  refine (Hd2.out _).mono ?_
  rintro e w3 ⟨rfl, hb3⟩
  have HB : Hid (Below w.heap.size w w3) := hb2.trans (hb3.mono hb2.size)
  clear hb2 hb3
  go_wp2_with fail
  refine (Hp.out _).mono ?_
  rintro e w4 ⟨rfl, hb4⟩
  have HB : Hid (Below w.heap.size w w4) := HB.out.trans (hb4.mono HB.out.size)
  clear hb4
  go_wp2_with fail
  refine (Hs.out _ (Ht.out.below HB.out)).mono ?_
  rintro e w5 ⟨rfl, hb5⟩
  have HB : Hid (Below w.heap.size w w5) := HB.out.trans (hb5.mono HB.out.size)
  clear hb5
  go_wp2_with fail
  refine (works_ok _ (Ht.out.below HB.out)).mono ?_
  rintro e w6 ⟨rfl, hb6⟩
  go_wp2
  go_ret
  exact ⟨rfl, HB.out.trans (hb6.mono HB.out.size)⟩

set_option maxRecDepth 100000 in
set_option maxHeartbeats 2000000 in
theorem fnBackwards_walk (a b : Int) (w : World) (hT : Tabs w) :
    Calls Tryz.prog 4 #[.int .i64 a, .int .i64 b] w fun e w' => e = .returned (.bool true) ∧ Below w.heap.size w w' := by
  have Ht := Lib.hid hT
  by_cases h1 : b < 1
  · have d1 : decide (b < 1) = true := decide_eq_true h1
    clear h1
    go_enter Tryz.func4, Tryz.ntmps4
    go_wp2_with fail
    refine (works_ok _ Ht.out).mono ?_
    rintro e w2 ⟨rfl, hb2⟩
    go_wp2
    go_ret
    exact ⟨rfl, hb2⟩
  by_cases h2 : a ≤ b
  · have d1 : decide (b < 1) = false := decide_eq_false h1
    have d2 : decide (a ≤ b) = true := decide_eq_true h2
    clear h1 h2
    go_enter Tryz.func4, Tryz.ntmps4
    go_wp2_with fail
    refine (works_ok _ Ht.out).mono ?_
    rintro e w2 ⟨rfl, hb2⟩
    go_wp2
    go_ret
    exact ⟨rfl, hb2⟩
  by_cases h3 : a > 65535
  · have d1 : decide (b < 1) = false := decide_eq_false h1
    have d2 : decide (a ≤ b) = false := decide_eq_false h2
    have d3 : decide (a > 65535) = true := decide_eq_true h3
    have d3n : decide (65535 < a) = true := decide_eq_true h3
    clear h1 h2 h3
    go_enter Tryz.func4, Tryz.ntmps4
    go_wp2_with fail
    refine (works_ok _ Ht.out).mono ?_
    rintro e w2 ⟨rfl, hb2⟩
    go_wp2
    go_ret
    exact ⟨rfl, hb2⟩
  obtain ⟨x, rfl⟩ : ∃ x : Nat, a = x := ⟨a.toNat, by omega⟩
  obtain ⟨y, rfl⟩ : ∃ y : Nat, b = y := ⟨b.toNat, by omega⟩
  exact fnBackwards_in x y (by omega) (by omega) (by omega) w hT
end Go.Proofs.YtdmggcbbfljciaaGreatDoor
