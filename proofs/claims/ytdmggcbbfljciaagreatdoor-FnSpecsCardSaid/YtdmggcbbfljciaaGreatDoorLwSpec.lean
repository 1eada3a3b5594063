/- the law FnSpec: its walk. -/
import Derived.Test.YtdmggcbbfljciaaGreatDoorISpec
import Derived.Test.YtdmggcbbfljciaaGreatDoorPubE
import Derived.Test.YtdmggcbbfljciaaGreatDoorPubD
namespace Go.Proofs.YtdmggcbbfljciaaGreatDoor
open Go.RowKit Go.Lib

theorem pub_isIP (p : Pub) (hp : p.Ok) : p.ip ≠ [] → ∀ W, Calls Tryz.prog 45 #[.string (tx p.ip)] W fun e w' => e = .returned (.bool true) ∧ Below W.heap.size W w' := by
  intro hne W
  rcases hp.ip with h | h | h
  · exact absurd h hne
  · exact isIP_of (tx p.ip) false (parseAddr_4 _ (by rw [tx_list]; exact h)) W
  · exact isIP_of (tx p.ip) true (parseAddr_6 _ (by rw [tx_list]; exact h)) W

theorem pub_shp (p : Pub) : sixL p.ip → ∀ W, Calls Tryz.prog 44 #[.string (tx (91 :: p.ip ++ [93]) ++ ⟨#[58]⟩)] W fun e w' => e = .returned (.tuple #[.string (tx p.ip), .string ⟨#[]⟩, .nilIface]) ∧ Below W.heap.size W w' := by
  intro h W
  have hn := six_no _ h
  exact splitHostPort_six p.ip hn.1 hn.2.1 (by have := hn.2.2.2.2.2; omega) _ (by rw [app_bytes, tx_list]; simp) W

theorem pub_spec (p : Pub) (hp : p.Ok) (w : World) (hT : Tabs w) :
    Calls Tryz.prog 10 #[.string (tx p.text)] w fun e w' => ∃ g c : Nat, e = .returned (.tuple #[.slice (some ⟨g, 0, none⟩) p.ms.length c, .bool true]) ∧ w.heap.size ≤ g ∧ M3At w' g p.ms ∧ Below w.heap.size w w' :=
  implSpec_ok p hp w hT (pub_isIP p hp) (pub_shp p)

set_option maxRecDepth 100000 in
set_option maxHeartbeats 8000000 in
theorem fnSpec_in (p : Pub) (hp : p.Ok) (hA : OkA p.a p.b (tx p.proto) (tx p.ip)) (hH : OkH p.a p.b p.h p.g) (w : World) (hT : Tabs w) :
    Calls Tryz.prog 3 #[.agg #[.int .i64 p.a, .int .i64 p.b, .string (tx p.proto), .string (tx p.ip), .int .i64 p.h, .int .i64 p.g]] w fun e w' => e = .returned (.bool true) ∧ Below w.heap.size w w' := by
  have HV : Hid (Below w.heap.size w (w.alloc (.cells #[.int .i64 p.a, .int .i64 p.b, .string (tx p.proto), .string (tx p.ip), .int .i64 p.h, .int .i64 p.g] 25))) := (Below.refl _ _).alloc (Nat.le_refl _) _
  have HC := Lib.hid (C6.new w (.int .i64 p.a) (.int .i64 p.b) (.string (tx p.proto)) (.string (tx p.ip)) (.int .i64 p.h) (.int .i64 p.g) 25)
  have hlt : w.heap.size < (w.alloc (.cells #[.int .i64 p.a, .int .i64 p.b, .string (tx p.proto), .string (tx p.ip), .int .i64 p.h, .int .i64 p.g] 25)).heap.size := by simp
  have Ht := Lib.hid hT
  have zi : (tx p.ip).size ≤ 15 := by rw [tx_size]; exact (Pub.ip_len hp).1
  have zp : (tx p.proto).size ≤ 4 := by rw [tx_size]; rcases hp.pr with h | h | h <;> rw [h] <;> decide
  have Hf := Lib.hid (fits6 p.a p.b (tx p.proto) (tx p.ip) p.h p.g)
  have Hq := Lib.hid (proper_pub p.a p.b (tx p.proto) (tx p.ip) p.h p.g (by omega))
  have Htx := Lib.hid (pub_text p hp)
  have Hsp := Lib.hid (pub_spec p hp)
  have Hmp := Lib.hid (maps_ok p hp)
  have HAH : Hid (OkA p.a p.b (tx p.proto) (tx p.ip) ∧ OkH p.a p.b p.h p.g) := ⟨hA, hH⟩
  have hL2 : p.ms.length ≤ 5000 := by rw [p.ms_len]; have := hp.n; omega
  have HL2 := Lib.hid hL2
  clear hT hp hA hH hL2
  go_enter Tryz.func3, Tryz.ntmps3
  go_upto_region 1 with fail
  generalize (w.alloc (.cells #[.int .i64 p.a, .int .i64 p.b, .string (tx p.proto), .string (tx p.ip), .int .i64 p.h, .int .i64 p.g] 25)) = V at *
  obtain ⟨c0, c1, c2, c3, c4, c5, -⟩ := HC.out
  go_wp2_with fail
  refine (Hf.out _).mono ?_
  rintro e w2 ⟨⟨q, rfl, hq⟩, hb2⟩
  clear c0 c1 c2 c3 c4 c5
  obtain ⟨c0, c1, c2, c3, c4, c5, -⟩ := C6.keep hlt HC.out hb2
  have HB2 := Lib.hid hb2
  have hqt : q = true := hq.2 ⟨by omega, by omega⟩
  subst hqt
  clear hb2 hq
  go_wp2_with fail
  refine (Hq.out _).mono ?_
  rintro e w3 ⟨⟨q, rfl, hq⟩, hb3⟩
  clear c0 c1 c2 c3 c4 c5
  have HB3 := Lib.hid (bl6 hb3 HB2.out)
  obtain ⟨c0, c1, c2, c3, c4, c5, -⟩ := C6.keep hlt HC.out HB3.out
  have hqt : q = true := hq.2 HAH.out
  subst hqt
  clear hb3 hq
  go_wp2_with fail
  refine (Htx.out _).mono ?_
  rintro e w4 ⟨rfl, hb4⟩
  clear c0 c1 c2 c3 c4 c5
  have HB4 := Lib.hid (bl6 hb4 HB3.out)
  clear hb4
  go_wp2_with fail
  refine (Hsp.out _ (Ht.out.below (HV.out.trans (HB4.out.mono HV.out.size)))).mono ?_
  rintro e w5 ⟨g, c, rfl, hg, hm, hb5⟩
  have HB5 := Lib.hid (bl6 hb5 HB4.out)
  obtain ⟨c0, c1, c2, c3, c4, c5, -⟩ := C6.keep hlt HC.out HB5.out
  have Hm := Lib.hid hm
  clear hb5 hm hg
  go_wp2_with fail
  refine (Hmp.out _).mono ?_
  rintro e w6 ⟨g', c', rfl, hg', hm', hb6⟩
  have Hm6 := Lib.hid (Hm.out.below hb6)
  have HB6 := Lib.hid (bl6 hb6 HB5.out)
  have Hm' := Lib.hid hm'
  clear hb6 hm' hg' c0 c1 c2 c3 c4 c5
  go_wp2_with fail
  refine (mappings_same g c g' c' p.ms _ Hm6.out Hm'.out HL2.out).mono ?_
  rintro e w7 ⟨rfl, hb7⟩
  have HB7 := Lib.hid (bl6 hb7 HB6.out)
  clear hb7
  go_wp2_with fail
  refine (works_ok _ (Ht.out.below (HV.out.trans (HB7.out.mono HV.out.size)))).mono ?_
  rintro e w8 ⟨rfl, hb8⟩
  have HB8 := Lib.hid (bl6 hb8 HB7.out)
  go_wp2_with fail
  go_ret
  exact ⟨rfl, HV.out.trans (HB8.out.mono HV.out.size)⟩

set_option maxRecDepth 100000 in
set_option maxHeartbeats 8000000 in
theorem fnSpec_walk (a b : Int) (pr ip : ByteArray) (h g : Int) (w : World) (hT : Tabs w) :
    Calls Tryz.prog 3 #[.agg #[.int .i64 a, .int .i64 b, .string pr, .string ip, .int .i64 h, .int .i64 g]] w fun e w' => e = .returned (.bool true) ∧ Below w.heap.size w w' := by
  by_cases hP : OkA a b pr ip ∧ OkH a b h g
  · obtain ⟨p, hp, rfl, rfl, rfl, rfl, rfl, rfl⟩ := pub_of hP.1 hP.2
    exact fnSpec_in p hp hP.1 hP.2 w hT
  have HV : Hid (Below w.heap.size w (w.alloc (.cells #[.int .i64 a, .int .i64 b, .string pr, .string ip, .int .i64 h, .int .i64 g] 25))) := (Below.refl _ _).alloc (Nat.le_refl _) _
  have HC := Lib.hid (C6.new w (.int .i64 a) (.int .i64 b) (.string pr) (.string ip) (.int .i64 h) (.int .i64 g) 25)
  have hlt : w.heap.size < (w.alloc (.cells #[.int .i64 a, .int .i64 b, .string pr, .string ip, .int .i64 h, .int .i64 g] 25)).heap.size := by simp
  have Ht := Lib.hid hT
  have Hf := Lib.hid (fits6 a b pr ip h g)
  have Hq := Lib.hid (proper_pub a b pr ip h g)
  have HP := Lib.hid hP
  clear hT hP
  go_enter Tryz.func3, Tryz.ntmps3
  go_upto_region 1 with fail
  generalize (w.alloc (.cells #[.int .i64 a, .int .i64 b, .string pr, .string ip, .int .i64 h, .int .i64 g] 25)) = V at *
  obtain ⟨c0, c1, c2, c3, c4, c5, -⟩ := HC.out
  go_wp2_with fail
  refine (Hf.out _).mono ?_
  rintro e w2 ⟨⟨q, rfl, hq⟩, hb2⟩
  clear c0 c1 c2 c3 c4 c5
  obtain ⟨c0, c1, c2, c3, c4, c5, -⟩ := C6.keep hlt HC.out hb2
  have HB2 := Lib.hid hb2
  have Hq2 := Lib.hid hq
  clear hb2 hq
  cases q with
  | false =>
    go_wp2_with fail
    go_ret
    exact ⟨rfl, HV.out.trans (HB2.out.mono HV.out.size)⟩
  | true =>
  have hz := (Hq2.out.1 (by trivial)).2
  have Hq3 := Lib.hid (Hq.out (by omega))
  clear hz
  go_wp2_with fail
  refine (Hq3.out _).mono ?_
  rintro e w3 ⟨⟨q, rfl, hq⟩, hb3⟩
  have HB3 := Lib.hid (bl6 hb3 HB2.out)
  have hqt : q = false := by
    cases q with
    | false => rfl
    | true => exact absurd (hq.1 (by trivial)) HP.out
  subst hqt
  clear hb3 hq c0 c1 c2 c3 c4 c5
  go_wp2_with fail
  refine (works_ok _ (Ht.out.below (HV.out.trans (HB3.out.mono HV.out.size)))).mono ?_
  rintro e w8 ⟨rfl, hb8⟩
  have HB8 := Lib.hid (bl6 hb8 HB3.out)
  go_wp2_with fail
  go_ret
  exact ⟨rfl, HV.out.trans (HB8.out.mono HV.out.size)⟩
end Go.Proofs.YtdmggcbbfljciaaGreatDoor
