/- dockernat: SplitProtoPort, ParsePortRangeToInt, NewPort, Port's methods. -/
import Derived.Test.YtdmggcbbfljciaaGreatDoorNRange
namespace Go.Proofs.YtdmggcbbfljciaaGreatDoor
open Go.RowKit Go.Lib

/-- strconv.ErrSyntax holds some error -/
def ErrAt (w : World) : Prop := ∃ (te : TypeId) (pe : Value), w.cell? ⟨5, 0, none⟩ = some (.iface te pe)
theorem ErrAt.below {w w' : World} (h : ErrAt w) (hb : Below w.heap.size w w') : ErrAt w' := by
  obtain ⟨te, pe, h1⟩ := h
  exact ⟨te, pe, (hb.cell (World.block_lt_of_cell? w _ h1)).trans h1⟩

theorem parse_range (a : Nat) (ha : a ≤ 65535) (r : List UInt8) : parseIntB 64 (decDigits a ++ 45 :: r) = parseIntB 64 [] := by
  have hd := CL.dec_digits a
  cases hx : decDigits a with
  | nil => exact absurd hx (CL.dec_ne a)
  | cons c l =>
    have hc : CL.Dg c := hd c (by rw [hx]; exact List.mem_cons_self)
    unfold CL.Dg at hc
    have h1 : ¬ (c.toNat = 43 ∨ c.toNat = 45) := by omega
    have h2 : parseUintB 64 (c :: l ++ 45 :: r) = parseUintM 0 0 [45] := by
      unfold parseUintB
      rw [if_neg (by simp), ← hx, CL.parse_append _ _ _ 0 a (CL.parse_all _ a (by omega) (by omega))]
      unfold parseUintM
      rw [if_neg (by decide), if_neg (by decide)]
    unfold parseIntB
    rw [List.cons_append]
    dsimp only
    rw [List.cons_append] at h2
    rw [if_neg h1, h2]
    unfold parseUintM
    rw [if_neg (by decide)]

set_option maxRecDepth 100000 in
set_option maxHeartbeats 2000000 in
theorem portNumber_none (s : ByteArray) (hs : s.data.toList ≠ []) (hp : parseIntB 64 s.data.toList = parseIntB 64 []) (hl : s.size ≤ 200000) (w : World) (hE : ErrAt w) :
    Calls Tryz.prog 53 #[.string s] w fun e w' => ∃ (te : TypeId) (pe : Value), e = .returned (.tuple #[.int .i64 0, .iface te pe]) ∧ Below w.heap.size w w' := by
  have hne := str_some s hs
  obtain ⟨te, pe, hcell⟩ := hE
  have hpi : Hid (Calls Tryz.prog 84 #[.string s, .int .i64 10, .int .i64 0] w fun e w' => ∃ N, e = .returned (.tuple #[.int .i64 0, .iface 149 (.pointer (some ⟨N, 0, none⟩))]) ∧ w.heap.size ≤ N ∧ w'.heap[N]? = some (.cells #[.string ⟨#[80, 97, 114, 115, 101, 73, 110, 116]⟩, .string s, .iface te pe] 152 (0, 0)) ∧ Below w.heap.size w w') :=
    Any.strconv_ParseInt_10_at0_syntax Tryz.laysC174 s (by omega) hp (.iface te pe) w hcell (Or.inr ⟨te, pe, rfl⟩)
  have hta : ∀ (v : Value) (W : World), (Instr.typeAssert (.iface 149 v) 60 149 true).run Tryz.prog W = .ok (.tuple #[v, .bool true]) W := fun v W => by rfl
  clear hs hp hcell
  go_enter Tryz.func53, Tryz.ntmps53
  go_wp2_with fail
  refine hpi.out.mono ?_
  rintro e w2 ⟨N, rfl, _, hrow, hb⟩
  have c2 := row_cell (l := [.string ⟨#[80, 97, 114, 115, 101, 73, 110, 116]⟩, .string s, .iface te pe]) hrow (j := 2) rfl
  have Hb := Lib.hid hb
  clear hrow hb
  go_wp2
  go_ret2
  exact ⟨te, pe, rfl, Hb.out⟩

set_option maxRecDepth 100000 in
set_option maxHeartbeats 2000000 in
theorem splitProto (s proto : ByteArray) (x : List UInt8) (hs : s.data.toList = x ++ 47 :: proto.data.toList) (hx : (47 : UInt8) ∉ x) (hx0 : x ≠ []) (hp : proto.data.toList ≠ []) (hl : s.size ≤ 1000000) (w : World) :
    Calls Tryz.prog 40 #[.string s] w fun e w' => ∃ r : ByteArray, e = .returned (.tuple #[.string proto, .string r]) ∧ Hid (r.data.toList = x) ∧ Below w.heap.size w w' := by
  have hcm := Lib.hid (ncut_hit s 47 _ _ hs hx (by omega))
  have hpne := str_some proto hp
  clear hs
  go_enter Tryz.func40, Tryz.ntmps40
  go_wp2_with fail
  refine (hcm.out _).mono ?_
  rintro e w2 ⟨r1, r2, rfl, hr1, hr2, hb2⟩
  obtain rfl : r2 = proto := bytes_ext hr2.out
  have h1 := str_some r1 (by rw [hr1.out]; exact hx0)
  go_wp2
  go_ret2
  exact ⟨r1, rfl, hr1, hb2⟩

theorem numT_ne (a b : Nat) : numT a b ≠ [] := by
  unfold numT
  split
  · exact CL.dec_ne a
  · simp

set_option maxRecDepth 100000 in
set_option maxHeartbeats 2000000 in
theorem rangeToInt_any (s : ByteArray) (a b : Nat) (hs : s.data.toList = numT a b) (ha : a ≤ b) (hb : b ≤ 65535) (w : World) :
    Calls Tryz.prog 30 #[.string s] w fun e w' => e = .returned (.tuple #[.int .i64 a, .int .i64 b, .nilIface]) ∧ Below w.heap.size w w' := by
  have hne := str_some s (by rw [hs]; exact numT_ne a b)
  have hpr := Lib.hid (portRange_any s a b hs ha hb)
  clear hs
  go_enter Tryz.func30, Tryz.ntmps30
  go_wp2_with fail
  refine (hpr.out _).mono ?_
  rintro e w2 ⟨rfl, hb2⟩
  go_wp2
  go_ret3
  exact ⟨rfl, hb2⟩

set_option maxRecDepth 100000 in
set_option maxHeartbeats 2000000 in
theorem portRangeImpl (s : ByteArray) (a b : Nat) (hs : s.data.toList = numT a b) (ha : a ≤ b) (hb : b ≤ 65535) (w : World) :
    Calls Tryz.prog 15 #[.string s] w fun e w' => e = .returned (.tuple #[.int .i64 a, .int .i64 b, .bool true]) ∧ Below w.heap.size w w' := by
  have hpr := Lib.hid (rangeToInt_any s a b hs ha hb)
  clear hs
  go_enter Tryz.func15, Tryz.ntmps15
  go_wp2_with fail
  refine (hpr.out _).mono ?_
  rintro e w2 ⟨rfl, hb2⟩
  go_wp2
  go_quiet (fail)
  go_wp2
  go_ret3
  exact ⟨rfl, below_drewN hb2 _⟩
end Go.Proofs.YtdmggcbbfljciaaGreatDoor
