/- dockernat: Port's methods, NewPort; impl.Of, impl.Split, impl.New. -/
import Derived.Test.YtdmggcbbfljciaaDoorNPort
namespace Go.Proofs.YtdmggcbbfljciaaDoor
open Go.RowKit Go.Lib

set_option maxRecDepth 100000 in
set_option maxHeartbeats 2000000 in
theorem portProto (s proto : ByteArray) (x : List UInt8) (hs : s.data.toList = x ++ 47 :: proto.data.toList) (hx : (47 : UInt8) ∉ x) (hp : proto.data.toList ≠ []) (hl : s.size ≤ 1000000) (w : World) :
    Calls Tryd.prog 22 #[.string s] w fun e w' => e = .returned (.string proto) ∧ Below w.heap.size w w' := by
  have hcm := Lib.hid (ncut_hit s 47 _ _ hs hx (by omega))
  have hpne := str_some proto hp
  clear hs
  go_enter Tryd.func22, Tryd.ntmps22
  go_wp2_with fail
  refine (hcm.out _).mono ?_
  rintro e w2 ⟨r1, r2, rfl, hr1, hr2, hb2⟩
  obtain rfl : r2 = proto := bytes_ext hr2.out
  go_wp2
  go_ret
  exact ⟨rfl, hb2⟩

set_option maxRecDepth 100000 in
set_option maxHeartbeats 2000000 in
theorem portPort (s proto : ByteArray) (x : List UInt8) (hs : s.data.toList = x ++ 47 :: proto.data.toList) (hx : (47 : UInt8) ∉ x) (hl : s.size ≤ 1000000) (w : World) :
    Calls Tryd.prog 23 #[.string s] w fun e w' => ∃ r : ByteArray, e = .returned (.string r) ∧ Hid (r.data.toList = x) ∧ Below w.heap.size w w' := by
  have hcm := Lib.hid (ncut_hit s 47 _ _ hs hx (by omega))
  clear hs
  go_enter Tryd.func23, Tryd.ntmps23
  go_wp2_with fail
  refine (hcm.out _).mono ?_
  rintro e w2 ⟨r1, r2, rfl, hr1, hr2, hb2⟩
  go_wp2
  go_ret
  exact ⟨_, rfl, hr1, hb2⟩

/-- what a port's number as a number is: that of one port, nothing of more -/
def intOf (a b : Nat) : Nat := if a = b then a else 0

theorem numT_len (a b : Nat) (ha : a ≤ 65535) (hb : b ≤ 65535) : (numT a b).length ≤ 131073 := by
  have h1 := dec_len a
  have h2 := dec_len b
  unfold numT
  split
  · omega
  · simp; omega

theorem portNumber_of (s : ByteArray) (a b : Nat) (hs : s.data.toList = numT a b) (ha : a ≤ 65535) (hb : b ≤ 65535) (w : World) (hE : ErrAt w) :
    Calls Tryd.prog 27 #[.string s] w fun e w' => ∃ v : Value, e = .returned (.tuple #[.int .i64 (intOf a b), v]) ∧ Below w.heap.size w w' := by
  by_cases h : a = b
  · subst h
    rw [numT, if_pos rfl] at hs
    refine (portNumber_ok s a hs ha w).mono ?_
    rintro e w' ⟨rfl, hb⟩
    exact ⟨_, by rw [intOf, if_pos rfl], hb⟩
  · have hlen := numT_len a b ha hb
    have hl : s.size ≤ 200000 := by rw [Lib.size_eq, hs]; omega
    rw [numT, if_neg h] at hs
    refine (portNumber_none s (by rw [hs]; simp) (by rw [hs]; exact parse_range a ha _) hl w hE).mono ?_
    rintro e w' ⟨te, pe, rfl, hb⟩
    exact ⟨_, by rw [intOf, if_neg h]; rfl, hb⟩

set_option maxRecDepth 100000 in
set_option maxHeartbeats 2000000 in
theorem portInt (s proto : ByteArray) (a b : Nat) (hs : s.data.toList = numT a b ++ 47 :: proto.data.toList) (hx : (47 : UInt8) ∉ numT a b) (ha : a ≤ 65535) (hb : b ≤ 65535) (hl : s.size ≤ 1000000) (w : World) (hE : ErrAt w) :
    Calls Tryd.prog 24 #[.string s] w fun e w' => e = .returned (.int .i64 (intOf a b)) ∧ Below w.heap.size w w' := by
  have hpp := Lib.hid (portPort s proto _ hs hx hl)
  have hE' := Lib.hid hE
  clear hs hE
  go_enter Tryd.func24, Tryd.ntmps24
  go_wp2_with fail
  refine (hpp.out _).mono ?_
  rintro e w2 ⟨r, rfl, hr, hb2⟩
  go_wp2_with fail
  refine (portNumber_of r a b hr.out ha hb _ (hE'.out.below hb2)).mono ?_
  rintro e w3 ⟨v, rfl, hb3⟩
  go_wp2
  go_ret
  exact ⟨rfl, hb2.trans (hb3.mono hb2.size)⟩

set_option maxRecDepth 100000 in
set_option maxHeartbeats 2000000 in
theorem implOf (s proto : ByteArray) (a b : Nat) (hs : s.data.toList = numT a b ++ 47 :: proto.data.toList) (hx : (47 : UInt8) ∉ numT a b) (hp : proto.data.toList ≠ []) (ha : a ≤ 65535) (hb : b ≤ 65535) (hl : s.size ≤ 1000000) (w : World) (hE : ErrAt w) :
    Calls Tryd.prog 14 #[.string s] w fun e w' => ∃ r : ByteArray, e = .returned (.tuple #[.string proto, .string r, .int .i64 (intOf a b)]) ∧ Hid (r.data.toList = numT a b) ∧ Below w.heap.size w w' := by
  have h1 := Lib.hid (portProto s proto _ hs hx hp hl)
  have h2 := Lib.hid (portPort s proto _ hs hx hl)
  have h3 := Lib.hid (fun w hE => portInt s proto a b hs hx ha hb hl w hE)
  have hE' := Lib.hid hE
  clear hs hE
  go_enter Tryd.func14, Tryd.ntmps14
  go_wp2_with fail
  refine (h1.out _).mono ?_
  rintro e w2 ⟨rfl, hb2⟩
  go_wp2_with fail
  refine (h2.out _).mono ?_
  rintro e w3 ⟨r, rfl, hr, hb3⟩
  have H3 := hb2.trans (hb3.mono hb2.size)
  clear hb2 hb3
  go_wp2_with fail
  refine (h3.out _ (hE'.out.below H3)).mono ?_
  rintro e w4 ⟨rfl, hb4⟩
  go_wp2
  go_ret3
  exact ⟨r, rfl, hr, H3.trans (hb4.mono H3.size)⟩

set_option maxRecDepth 100000 in
set_option maxHeartbeats 2000000 in
theorem implSplit (s proto : ByteArray) (x : List UInt8) (hs : s.data.toList = x ++ 47 :: proto.data.toList) (hx : (47 : UInt8) ∉ x) (hx0 : x ≠ []) (hp : proto.data.toList ≠ []) (hl : s.size ≤ 1000000) (w : World) :
    Calls Tryd.prog 11 #[.string s] w fun e w' => ∃ r : ByteArray, e = .returned (.tuple #[.string proto, .string r]) ∧ Hid (r.data.toList = x) ∧ Below w.heap.size w w' := by
  have h1 := Lib.hid (splitProto s proto x hs hx hx0 hp hl)
  clear hs
  go_enter Tryd.func11, Tryd.ntmps11
  go_wp2_with fail
  refine (h1.out _).mono ?_
  rintro e w2 ⟨r, rfl, hr, hb2⟩
  go_wp2
  go_ret2
  exact ⟨r, rfl, hr, hb2⟩

set_option maxRecDepth 100000 in
set_option maxHeartbeats 2000000 in
theorem newPort (s proto : ByteArray) (a b : Nat) (hs : s.data.toList = numT a b) (ha : a ≤ b) (hb : b ≤ 65535) (hl : proto.size ≤ 1000000) (w : World) (hT : Tabs w) :
    Calls Tryd.prog 20 #[.string proto, .string s] w fun e w' => ∃ r : ByteArray, e = .returned (.tuple #[.string r, .nilIface]) ∧ Hid (r.data.toList = numT a b ++ 47 :: proto.data.toList) ∧ Below w.heap.size w w' := by
  have hpr := Lib.hid (portRange_any s a b hs ha hb)
  have Ht := Lib.hid hT
  clear hs hT
  go_enter Tryd.func20, Tryd.ntmps20
  go_wp2_with fail
  refine (hpr.out _).mono ?_
  rintro e w2 ⟨rfl, hb2⟩
  by_cases h : a = b
  · have hq : ((a : Int) == (b : Int)) = true := by simp; omega
    have H := Lib.hid h
    clear h
    go_wp2_with fail
    refine (itoa_nat a _ rfl (by omega) _ (Ht.out.below hb2)).mono ?_
    rintro e w3 ⟨r1, rfl, hr1, hz1, hb3⟩
    go_wp2
    go_ret2
    refine ⟨_, rfl, ?_, hb2.trans (hb3.mono hb2.size)⟩
    show _ = _
    rw [app_bytes, app_bytes, hr1.out, numT, if_pos H.out]
    simp
  · have hq : ((a : Int) == (b : Int)) = false := by simp; omega
    have H := Lib.hid h
    clear h
    go_wp2_with fail
    refine (itoa_nat a _ rfl (by omega) _ (Ht.out.below hb2)).mono ?_
    rintro e w3 ⟨r1, rfl, hr1, hz1, hb3⟩
    have H3 := hb2.trans (hb3.mono hb2.size)
    clear hb2 hb3
    go_wp2_with fail
    refine (itoa_nat b _ rfl (by omega) _ (Ht.out.below H3)).mono ?_
    rintro e w4 ⟨r2, rfl, hr2, hz2, hb4⟩
    go_wp2
    go_ret2
    refine ⟨_, rfl, ?_, H3.trans (hb4.mono H3.size)⟩
    show _ = _
    rw [app_bytes, app_bytes, app_bytes, app_bytes, hr1.out, hr2.out, numT, if_neg H.out]
    simp
end Go.Proofs.YtdmggcbbfljciaaDoor
