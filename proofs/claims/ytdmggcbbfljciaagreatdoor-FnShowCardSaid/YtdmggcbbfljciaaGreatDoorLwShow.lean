/- the law FnShow: its walk. -/
import Derived.Test.YtdmggcbbfljciaaGreatDoorLwSpec
import Derived.Test.YtdmggcbbfljciaaGreatDoorShow
namespace Go.Proofs.YtdmggcbbfljciaaGreatDoor
open Go.RowKit Go.Lib

set_option maxRecDepth 100000 in
set_option maxHeartbeats 8000000 in
theorem show_noip (a b h g : Int) (pr ip : ByteArray) (hz : ip.size ≤ 15) (hzp : pr.size ≤ 4) (hP : OkA a b pr ip ∧ OkH a b h g) (he : ip.data.toList = []) (w : World) (hT : Tabs w) :
    Calls Tryz.prog 5 #[.agg #[.int .i64 a, .int .i64 b, .string pr, .string ip, .int .i64 h, .int .i64 g]] w fun e w' => e = .returned (.bool true) ∧ Below w.heap.size w w' := by
  have HV : Hid (Below w.heap.size w (w.alloc (.cells #[.int .i64 a, .int .i64 b, .string pr, .string ip, .int .i64 h, .int .i64 g] 25))) := (Below.refl _ _).alloc (Nat.le_refl _) _
  have HC := Lib.hid (C6.new w (.int .i64 a) (.int .i64 b) (.string pr) (.string ip) (.int .i64 h) (.int .i64 g) 25)
  have hlt : w.heap.size < (w.alloc (.cells #[.int .i64 a, .int .i64 b, .string pr, .string ip, .int .i64 h, .int .i64 g] 25)).heap.size := by simp
  have Ht := Lib.hid hT
  have Hf := Lib.hid (fits6 a b pr ip h g)
  have Hq := Lib.hid (proper_pub a b pr ip h g (by omega))
  have HP := Lib.hid hP
  have hs := str_nil ip he
  clear he
  clear hT hP
  go_enter Tryz.func5, Tryz.ntmps5
  go_upto_region 1 with fail
  generalize (w.alloc (.cells #[.int .i64 a, .int .i64 b, .string pr, .string ip, .int .i64 h, .int .i64 g] 25)) = V at *
  obtain ⟨c0, c1, c2, c3, c4, c5, -⟩ := HC.out
  go_wp2_with fail
  refine (Hf.out _).mono ?_
  rintro e w2 ⟨⟨q, rfl, hq⟩, hb2⟩
  clear c0 c1 c2 c3 c4 c5
  obtain ⟨c0, c1, c2, c3, c4, c5, -⟩ := C6.keep hlt HC.out hb2
  have HB2 := Lib.hid hb2
  have hqt : q = true := hq.2 ⟨by omega, by omega⟩
  subst hqt
  clear hb2 hq
  go_wp2_with fail
  refine (Hq.out _).mono ?_
  rintro e w3 ⟨⟨q, rfl, hq⟩, hb3⟩
  clear c0 c1 c2 c3 c4 c5
  have HB3 := Lib.hid (bl6 hb3 HB2.out)
  obtain ⟨c0, c1, c2, c3, c4, c5, -⟩ := C6.keep hlt HC.out HB3.out
  have hqt : q = true := hq.2 HP.out
  subst hqt
  clear hb3 hq
  go_wp2_with fail
  refine (works_ok _ (Ht.out.below (HV.out.trans (HB3.out.mono HV.out.size)))).mono ?_
  rintro e w8 ⟨rfl, hb8⟩
  have HB8 := Lib.hid (bl6 hb8 HB3.out)
  go_wp2_with fail
  go_ret
  exact ⟨rfl, HV.out.trans (HB8.out.mono HV.out.size)⟩

set_option maxRecDepth 100000 in
set_option maxHeartbeats 8000000 in
theorem show_nohost (a b g : Int) (pr ip : ByteArray) (hz : ip.size ≤ 15) (hzp : pr.size ≤ 4) (hP : OkA a b pr ip ∧ OkH a b 0 g) (hne : ip.data.toList ≠ []) (w : World) (hT : Tabs w) :
    Calls Tryz.prog 5 #[.agg #[.int .i64 a, .int .i64 b, .string pr, .string ip, .int .i64 0, .int .i64 g]] w fun e w' => e = .returned (.bool true) ∧ Below w.heap.size w w' := by
  have HV : Hid (Below w.heap.size w (w.alloc (.cells #[.int .i64 a, .int .i64 b, .string pr, .string ip, .int .i64 0, .int .i64 g] 25))) := (Below.refl _ _).alloc (Nat.le_refl _) _
  have HC := Lib.hid (C6.new w (.int .i64 a) (.int .i64 b) (.string pr) (.string ip) (.int .i64 0) (.int .i64 g) 25)
  have hlt : w.heap.size < (w.alloc (.cells #[.int .i64 a, .int .i64 b, .string pr, .string ip, .int .i64 0, .int .i64 g] 25)).heap.size := by simp
  have Ht := Lib.hid hT
  have Hf := Lib.hid (fits6 a b pr ip 0 g)
  have Hq := Lib.hid (proper_pub a b pr ip 0 g (by omega))
  have HP := Lib.hid hP
  have hs := str_some ip hne
  clear hne
  clear hT hP
  go_enter Tryz.func5, Tryz.ntmps5
  go_upto_region 1 with fail
  generalize (w.alloc (.cells #[.int .i64 a, .int .i64 b, .string pr, .string ip, .int .i64 0, .int .i64 g] 25)) = V at *
  obtain ⟨c0, c1, c2, c3, c4, c5, -⟩ := HC.out
  go_wp2_with fail
  refine (Hf.out _).mono ?_
  rintro e w2 ⟨⟨q, rfl, hq⟩, hb2⟩
  clear c0 c1 c2 c3 c4 c5
  obtain ⟨c0, c1, c2, c3, c4, c5, -⟩ := C6.keep hlt HC.out hb2
  have HB2 := Lib.hid hb2
  have hqt : q = true := hq.2 ⟨by omega, by omega⟩
  subst hqt
  clear hb2 hq
  go_wp2_with fail
  refine (Hq.out _).mono ?_
  rintro e w3 ⟨⟨q, rfl, hq⟩, hb3⟩
  clear c0 c1 c2 c3 c4 c5
  have HB3 := Lib.hid (bl6 hb3 HB2.out)
  obtain ⟨c0, c1, c2, c3, c4, c5, -⟩ := C6.keep hlt HC.out HB3.out
  have hqt : q = true := hq.2 HP.out
  subst hqt
  clear hb3 hq
  go_wp2_with fail
  refine (works_ok _ (Ht.out.below (HV.out.trans (HB3.out.mono HV.out.size)))).mono ?_
  rintro e w8 ⟨rfl, hb8⟩
  have HB8 := Lib.hid (bl6 hb8 HB3.out)
  go_wp2_with fail
  go_ret
  exact ⟨rfl, HV.out.trans (HB8.out.mono HV.out.size)⟩

set_option maxRecDepth 100000 in
set_option maxHeartbeats 8000000 in
theorem show_many (a b h g : Int) (pr ip : ByteArray) (hz : ip.size ≤ 15) (hzp : pr.size ≤ 4) (hP : OkA a b pr ip ∧ OkH a b h g) (hne : ip.data.toList ≠ []) (h0 : h ≠ 0) (hab : a ≠ b) (w : World) (hT : Tabs w) :
    Calls Tryz.prog 5 #[.agg #[.int .i64 a, .int .i64 b, .string pr, .string ip, .int .i64 h, .int .i64 g]] w fun e w' => e = .returned (.bool true) ∧ Below w.heap.size w w' := by
  have HV : Hid (Below w.heap.size w (w.alloc (.cells #[.int .i64 a, .int .i64 b, .string pr, .string ip, .int .i64 h, .int .i64 g] 25))) := (Below.refl _ _).alloc (Nat.le_refl _) _
  have HC := Lib.hid (C6.new w (.int .i64 a) (.int .i64 b) (.string pr) (.string ip) (.int .i64 h) (.int .i64 g) 25)
  have hlt : w.heap.size < (w.alloc (.cells #[.int .i64 a, .int .i64 b, .string pr, .string ip, .int .i64 h, .int .i64 g] 25)).heap.size := by simp
  have Ht := Lib.hid hT
  have Hf := Lib.hid (fits6 a b pr ip h g)
  have Hq := Lib.hid (proper_pub a b pr ip h g (by omega))
  have HP := Lib.hid hP
  have hs := str_some ip hne
  have d0 : (h == 0) = false := beq_eq_false_iff_ne.2 h0
  have d1 : (a == b) = false := beq_eq_false_iff_ne.2 hab
  clear hne h0 hab
  clear hT hP
  go_enter Tryz.func5, Tryz.ntmps5
  go_upto_region 1 with fail
  generalize (w.alloc (.cells #[.int .i64 a, .int .i64 b, .string pr, .string ip, .int .i64 h, .int .i64 g] 25)) = V at *
  obtain ⟨c0, c1, c2, c3, c4, c5, -⟩ := HC.out
  go_wp2_with fail
  refine (Hf.out _).mono ?_
  rintro e w2 ⟨⟨q, rfl, hq⟩, hb2⟩
  clear c0 c1 c2 c3 c4 c5
  obtain ⟨c0, c1, c2, c3, c4, c5, -⟩ := C6.keep hlt HC.out hb2
  have HB2 := Lib.hid hb2
  have hqt : q = true := hq.2 ⟨by omega, by omega⟩
  subst hqt
  clear hb2 hq
  go_wp2_with fail
  refine (Hq.out _).mono ?_
  rintro e w3 ⟨⟨q, rfl, hq⟩, hb3⟩
  clear c0 c1 c2 c3 c4 c5
  have HB3 := Lib.hid (bl6 hb3 HB2.out)
  obtain ⟨c0, c1, c2, c3, c4, c5, -⟩ := C6.keep hlt HC.out HB3.out
  have hqt : q = true := hq.2 HP.out
  subst hqt
  clear hb3 hq
  go_wp2_with fail
  refine (works_ok _ (Ht.out.below (HV.out.trans (HB3.out.mono HV.out.size)))).mono ?_
  rintro e w8 ⟨rfl, hb8⟩
  have HB8 := Lib.hid (bl6 hb8 HB3.out)
  go_wp2_with fail
  go_ret
  exact ⟨rfl, HV.out.trans (HB8.out.mono HV.out.size)⟩

set_option maxRecDepth 100000 in
set_option maxHeartbeats 8000000 in
theorem show_hosts (a h g : Int) (pr ip : ByteArray) (hz : ip.size ≤ 15) (hzp : pr.size ≤ 4) (hP : OkA a a pr ip ∧ OkH a a h g) (hne : ip.data.toList ≠ []) (h0 : h ≠ 0) (hhg : h ≠ g) (w : World) (hT : Tabs w) :
    Calls Tryz.prog 5 #[.agg #[.int .i64 a, .int .i64 a, .string pr, .string ip, .int .i64 h, .int .i64 g]] w fun e w' => e = .returned (.bool true) ∧ Below w.heap.size w w' := by
  have HV : Hid (Below w.heap.size w (w.alloc (.cells #[.int .i64 a, .int .i64 a, .string pr, .string ip, .int .i64 h, .int .i64 g] 25))) := (Below.refl _ _).alloc (Nat.le_refl _) _
  have HC := Lib.hid (C6.new w (.int .i64 a) (.int .i64 a) (.string pr) (.string ip) (.int .i64 h) (.int .i64 g) 25)
  have hlt : w.heap.size < (w.alloc (.cells #[.int .i64 a, .int .i64 a, .string pr, .string ip, .int .i64 h, .int .i64 g] 25)).heap.size := by simp
  have Ht := Lib.hid hT
  have Hf := Lib.hid (fits6 a a pr ip h g)
  have Hq := Lib.hid (proper_pub a a pr ip h g (by omega))
  have HP := Lib.hid hP
  have hs := str_some ip hne
  have d0 : (h == 0) = false := beq_eq_false_iff_ne.2 h0
  have d1 : (h == g) = false := beq_eq_false_iff_ne.2 hhg
  clear hne h0 hhg
  clear hT hP
  go_enter Tryz.func5, Tryz.ntmps5
  go_upto_region 1 with fail
  generalize (w.alloc (.cells #[.int .i64 a, .int .i64 a, .string pr, .string ip, .int .i64 h, .int .i64 g] 25)) = V at *
  obtain ⟨c0, c1, c2, c3, c4, c5, -⟩ := HC.out
  go_wp2_with fail
  refine (Hf.out _).mono ?_
  rintro e w2 ⟨⟨q, rfl, hq⟩, hb2⟩
  clear c0 c1 c2 c3 c4 c5
  obtain ⟨c0, c1, c2, c3, c4, c5, -⟩ := C6.keep hlt HC.out hb2
  have HB2 := Lib.hid hb2
  have hqt : q = true := hq.2 ⟨by omega, by omega⟩
  subst hqt
  clear hb2 hq
  go_wp2_with fail
  refine (Hq.out _).mono ?_
  rintro e w3 ⟨⟨q, rfl, hq⟩, hb3⟩
  clear c0 c1 c2 c3 c4 c5
  have HB3 := Lib.hid (bl6 hb3 HB2.out)
  obtain ⟨c0, c1, c2, c3, c4, c5, -⟩ := C6.keep hlt HC.out HB3.out
  have hqt : q = true := hq.2 HP.out
  subst hqt
  clear hb3 hq
  go_wp2_with fail
  refine (works_ok _ (Ht.out.below (HV.out.trans (HB3.out.mono HV.out.size)))).mono ?_
  rintro e w8 ⟨rfl, hb8⟩
  have HB8 := Lib.hid (bl6 hb8 HB3.out)
  go_wp2_with fail
  go_ret
  exact ⟨rfl, HV.out.trans (HB8.out.mono HV.out.size)⟩

theorem m3_new (w : World) (m : M3) (x y z : ByteArray) (t : TypeId) (hx : x = tx m.1) (hy : y = tx m.2.1) (hz : z = tx m.2.2) : M3At (w.alloc (.cells #[.string x, .string y, .string z] t)) w.heap.size [m] := by
  subst hx hy hz
  intro j hj
  obtain rfl : j = 0 := by simp at hj; omega
  have r := heap_alloc_new w (.cells #[.string (tx m.1), .string (tx m.2.1), .string (tx m.2.2)] t)
  exact ⟨row_cell (l := [.string (tx m.1), .string (tx m.2.1), .string (tx m.2.2)]) r (j := 0) rfl, row_cell (l := [.string (tx m.1), .string (tx m.2.1), .string (tx m.2.2)]) r (j := 1) rfl, row_cell (l := [.string (tx m.1), .string (tx m.2.1), .string (tx m.2.2)]) r (j := 2) rfl⟩

set_option maxRecDepth 100000 in
set_option maxHeartbeats 8000000 in
theorem show_bad (a b : Int) (pr ip : ByteArray) (h g : Int) (hP : ¬ (OkA a b pr ip ∧ OkH a b h g)) (w : World) (hT : Tabs w) :
    Calls Tryz.prog 5 #[.agg #[.int .i64 a, .int .i64 b, .string pr, .string ip, .int .i64 h, .int .i64 g]] w fun e w' => e = .returned (.bool true) ∧ Below w.heap.size w w' := by
  have HV : Hid (Below w.heap.size w (w.alloc (.cells #[.int .i64 a, .int .i64 b, .string pr, .string ip, .int .i64 h, .int .i64 g] 25))) := (Below.refl _ _).alloc (Nat.le_refl _) _
  have HC := Lib.hid (C6.new w (.int .i64 a) (.int .i64 b) (.string pr) (.string ip) (.int .i64 h) (.int .i64 g) 25)
  have hlt : w.heap.size < (w.alloc (.cells #[.int .i64 a, .int .i64 b, .string pr, .string ip, .int .i64 h, .int .i64 g] 25)).heap.size := by simp
  have Ht := Lib.hid hT
  have Hf := Lib.hid (fits6 a b pr ip h g)
  have Hq := Lib.hid (proper_pub a b pr ip h g)
  have HP := Lib.hid hP
  clear hT hP
  go_enter Tryz.func5, Tryz.ntmps5
  go_upto_region 1 with fail
  generalize (w.alloc (.cells #[.int .i64 a, .int .i64 b, .string pr, .string ip, .int .i64 h, .int .i64 g] 25)) = V at *
  obtain ⟨c0, c1, c2, c3, c4, c5, -⟩ := HC.out
  go_wp2_with fail
  refine (Hf.out _).mono ?_
  rintro e w2 ⟨⟨q, rfl, hq⟩, hb2⟩
  clear c0 c1 c2 c3 c4 c5
  obtain ⟨c0, c1, c2, c3, c4, c5, -⟩ := C6.keep hlt HC.out hb2
  have HB2 := Lib.hid hb2
  have Hq2 := Lib.hid hq
  clear hb2 hq
  cases q with
  | false =>
    go_wp2_with fail
    go_ret
    exact ⟨rfl, HV.out.trans (HB2.out.mono HV.out.size)⟩
  | true =>
  have hz := (Hq2.out.1 (by trivial)).2
  have Hq3 := Lib.hid (Hq.out (by omega))
  clear hz
  go_wp2_with fail
  refine (Hq3.out _).mono ?_
  rintro e w3 ⟨⟨q, rfl, hq⟩, hb3⟩
  have HB3 := Lib.hid (bl6 hb3 HB2.out)
  have hqt : q = false := by
    cases q with
    | false => rfl
    | true => exact absurd (hq.1 (by trivial)) HP.out
  subst hqt
  clear hb3 hq c0 c1 c2 c3 c4 c5
  go_wp2_with fail
  refine (works_ok _ (Ht.out.below (HV.out.trans (HB3.out.mono HV.out.size)))).mono ?_
  rintro e w8 ⟨rfl, hb8⟩
  have HB8 := Lib.hid (bl6 hb8 HB3.out)
  go_wp2_with fail
  go_ret
  exact ⟨rfl, HV.out.trans (HB8.out.mono HV.out.size)⟩

set_option maxRecDepth 100000 in
set_option maxHeartbeats 8000000 in
theorem fnShow_in (a h : Nat) (p : Pub) (hp : p.Ok) (ea : p.a = a) (eb : p.b = a) (eh : p.h = h) (eg : p.g = h) (hne : p.ip ≠ []) (h0 : h ≠ 0) (hP : OkA a a (tx p.proto) (tx p.ip) ∧ OkH a a h h) (w : World) (hT : Tabs w) :
    Calls Tryz.prog 5 #[.agg #[.int .i64 a, .int .i64 a, .string (tx p.proto), .string (tx p.ip), .int .i64 h, .int .i64 h]] w fun e w' => e = .returned (.bool true) ∧ Below w.heap.size w w' := by
  have hz : (tx p.ip).size ≤ 15 := by rw [tx_size]; exact (Pub.ip_len hp).1
  have hzp : (tx p.proto).size ≤ 4 := by rw [tx_size]; rcases hp.pr with h | h | h <;> rw [h] <;> decide
  have HV : Hid (Below w.heap.size w (w.alloc (.cells #[.int .i64 a, .int .i64 a, .string (tx p.proto), .string (tx p.ip), .int .i64 h, .int .i64 h] 25))) := (Below.refl _ _).alloc (Nat.le_refl _) _
  have HC := Lib.hid (C6.new w (.int .i64 a) (.int .i64 a) (.string (tx p.proto)) (.string (tx p.ip)) (.int .i64 h) (.int .i64 h) 25)
  have hlt : w.heap.size < (w.alloc (.cells #[.int .i64 a, .int .i64 a, .string (tx p.proto), .string (tx p.ip), .int .i64 h, .int .i64 h] 25)).heap.size := by simp
  have Ht := Lib.hid hT
  have Hf := Lib.hid (fits6 a a (tx p.proto) (tx p.ip) h h)
  have Hq := Lib.hid (proper_pub a a (tx p.proto) (tx p.ip) h h (by omega))
  have HP := Lib.hid hP
  have hs := str_some (tx p.ip) hne
  have d0 : ((h : Int) == 0) = false := beq_eq_false_iff_ne.2 (by omega)
  have hl : p.ms.length = 1 := by rw [p.ms_len, ea, eb]; omega
  obtain ⟨m, hm⟩ : ∃ m, p.ms = [m] := List.length_eq_one_iff.1 hl
  have hm0 : m = p.m 0 := by
    have := p.ms_get 0 (by omega)
    rw [hm] at this; exact this
  have hmp := maps_ok p hp
  rw [ea, eb, eh, eg, hm] at hmp
  have Hmp := Lib.hid hmp
  have hsp := pub_spec p hp
  rw [hm] at hsp
  have Hsp := Lib.hid hsp
  have e1 : m.1 = p.outT := by
    rw [hm0]; unfold Pub.m Pub.outT numT; rw [ea, eb, if_pos rfl]; simp
  have e2 : m.2.1 = p.ip := by rw [hm0]; rfl
  have e3 : m.2.2 = p.hostT := by
    rw [hm0]; unfold Pub.m Pub.hostT
    show (if p.h = 0 then [] else if p.a = p.b then numT p.h p.g else decDigits (p.h + 0)) = _
    rw [if_neg (by omega), if_pos (by omega), if_neg (by omega)]
  have et : p.ipT ++ 58 :: (p.hostT ++ 58 :: p.outT) = p.text := by unfold Pub.text; rw [if_pos hne]
  have hsh := show_ok p hp p.outT p.hostT (Pub.out_len hp) (Pub.host_len hp)
  rw [et] at hsh
  have Hsh := Lib.hid hsh
  have E1 := Lib.hid e1
  have E2 := Lib.hid e2
  have E3 := Lib.hid e3
  have Hms := Lib.hid (fun g c g' c' W h h' => mappings_same g c g' c' [m] W h h' (by simp))
  clear hT hP hp ea eb eh eg hne h0 hl hm hm0 hmp hsp e1 e2 e3 et hsh
  go_enter Tryz.func5, Tryz.ntmps5
  go_upto_region 1 with fail
  generalize (w.alloc (.cells #[.int .i64 a, .int .i64 a, .string (tx p.proto), .string (tx p.ip), .int .i64 h, .int .i64 h] 25)) = V at *
  obtain ⟨c0, c1, c2, c3, c4, c5, -⟩ := HC.out
  go_wp2_with fail
  refine (Hf.out _).mono ?_
  rintro e w2 ⟨⟨q, rfl, hq⟩, hb2⟩
  clear c0 c1 c2 c3 c4 c5
  obtain ⟨c0, c1, c2, c3, c4, c5, -⟩ := C6.keep hlt HC.out hb2
  have HB2 := Lib.hid hb2
  have hqt : q = true := hq.2 ⟨by omega, by omega⟩
  subst hqt
  clear hb2 hq
  go_wp2_with fail
  refine (Hq.out _).mono ?_
  rintro e w3 ⟨⟨q, rfl, hq⟩, hb3⟩
  clear c0 c1 c2 c3 c4 c5
  have HB3 := Lib.hid (bl6 hb3 HB2.out)
  obtain ⟨c0, c1, c2, c3, c4, c5, -⟩ := C6.keep hlt HC.out HB3.out
  have hqt : q = true := hq.2 HP.out
  subst hqt
  clear hb3 hq
  go_wp2_with fail
  refine (Hmp.out _).mono ?_
  rintro e w4 ⟨gg, c, rfl, hg, hm3, hb4⟩
  have HB4 := Lib.hid (bl6 hb4 HB3.out)
  have hgl : gg < w4.heap.size := World.block_lt_of_cell? w4 _ (hm3 0 (by simp)).1
  obtain ⟨k0, k1, k2⟩ := hm3 0 (by simp)
  have x0 : w4.cell? ⟨gg, 0, none⟩ = some (.string (tx p.outT)) := by rw [← E1.out]; simpa using k0
  have x1 : w4.cell? ⟨gg, 1, none⟩ = some (.string (tx p.ip)) := by rw [← E2.out]; simpa using k1
  have x2 : w4.cell? ⟨gg, 2, none⟩ = some (.string (tx p.hostT)) := by rw [← E3.out]; simpa using k2
  clear hb4 hm3 k0 k1 k2 c0 c1 c2 c3 c4 c5 hg
  go_wp2_with fail
  have HB5 : Hid (Below V.heap.size V (w4.alloc (.cells #[.string (tx p.outT), .string (tx p.ip), .string (tx p.hostT)] 40))) := HB4.out.alloc HB4.out.size _
  have r5 := heap_alloc_new w4 (.cells #[.string (tx p.outT), .string (tx p.ip), .string (tx p.hostT)] 40)
  have R5 := Lib.hid r5
  have l5 : w4.heap.size < (w4.alloc (.cells #[.string (tx p.outT), .string (tx p.ip), .string (tx p.hostT)] 40)).heap.size := by simp
  clear r5 x0 x1 x2
  refine (Hsh.out _).mono ?_
  rintro e w6 ⟨rfl, hb6⟩
  have HB6 := Lib.hid (bl6 hb6 HB5.out)
  have R6 := Lib.hid ((hb6.block _ l5).trans R5.out)
  have l6 := Nat.lt_of_lt_of_le l5 hb6.size
  clear hb6 R5 l5
  go_wp2_with fail
  refine (Hsp.out _ (Ht.out.below (HV.out.trans (HB6.out.mono HV.out.size)))).mono ?_
  rintro e w7 ⟨g7, c7, rfl, hg7, hm7, hb7⟩
  have HB7 := Lib.hid (bl6 hb7 HB6.out)
  have r7 := (hb7.block _ l6).trans R6.out
  have c0 := row_cell (l := [.string (tx p.outT), .string (tx p.ip), .string (tx p.hostT)]) r7 (j := 0) rfl
  have c1 := row_cell (l := [.string (tx p.outT), .string (tx p.ip), .string (tx p.hostT)]) r7 (j := 1) rfl
  have c2 := row_cell (l := [.string (tx p.outT), .string (tx p.ip), .string (tx p.hostT)]) r7 (j := 2) rfl
  have HM7 := Lib.hid hm7
  clear hb7 r7 hm7 hg7 l6 R6
  go_wp2_with fail
  refine (Hms.out g7 c7 w7.heap.size 1 _ (HM7.out.below ((Below.refl _ _).alloc (Nat.le_refl _) _)) (m3_new _ m _ _ _ _ (by rw [E1.out]) (by rw [E2.out]) (by rw [E3.out]))).mono ?_
  rintro e w8 ⟨rfl, hb8⟩
  have HB8 := Lib.hid (bl6 hb8 (HB7.out.alloc HB7.out.size (.cells #[.string (tx p.outT), .string (tx p.ip), .string (tx p.hostT)] 40)))
  clear hb8
  go_wp2_with fail
  refine (works_ok _ (Ht.out.below (HV.out.trans (HB8.out.mono HV.out.size)))).mono ?_
  rintro e w9 ⟨rfl, hb9⟩
  have HB9 := Lib.hid (bl6 hb9 HB8.out)
  go_wp2_with fail
  go_ret
  exact ⟨rfl, HV.out.trans (HB9.out.mono HV.out.size)⟩

theorem fnShow_walk (a b : Int) (pr ip : ByteArray) (h g : Int) (w : World) (hT : Tabs w) :
    Calls Tryz.prog 5 #[.agg #[.int .i64 a, .int .i64 b, .string pr, .string ip, .int .i64 h, .int .i64 g]] w fun e w' => e = .returned (.bool true) ∧ Below w.heap.size w w' := by
  by_cases hP : OkA a b pr ip ∧ OkH a b h g
  · obtain ⟨p, hp, ea, eb, epr, eip, eh, eg⟩ := pub_of hP.1 hP.2
    have hz : ip.size ≤ 15 := by rw [eip, tx_size]; exact (Pub.ip_len hp).1
    have hzp : pr.size ≤ 4 := by rw [epr, tx_size]; rcases hp.pr with h | h | h <;> rw [h] <;> decide
    by_cases h1 : ip.data.toList = []
    · exact show_noip a b h g pr ip hz hzp hP h1 w hT
    by_cases h2 : h = 0
    · subst h2; exact show_nohost a b g pr ip hz hzp hP h1 w hT
    by_cases h3 : a = b
    · subst h3
      by_cases h4 : h = g
      · subst h4
        subst ea epr eip eh
        exact fnShow_in p.a p.h p hp rfl (by omega) rfl (by omega) (by rw [← tx_list p.ip]; exact h1) (by omega) hP w hT
      · exact show_hosts a h g pr ip hz hzp hP h1 h2 h4 w hT
    · exact show_many a b h g pr ip hz hzp hP h1 h2 h3 w hT
  · exact show_bad a b pr ip h g hP w hT
end Go.Proofs.YtdmggcbbfljciaaGreatDoor

