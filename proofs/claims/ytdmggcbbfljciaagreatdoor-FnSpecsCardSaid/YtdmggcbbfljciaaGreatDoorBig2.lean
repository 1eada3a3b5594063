/- trailingZeroBits of a nat; Bit, BitLen, TrailingZeroBits of a big.Int. -/
import Derived.Test.YtdmggcbbfljciaaGreatDoorBig1
import Derived.LoopTactic
namespace Go.Proofs.YtdmggcbbfljciaaGreatDoor
open Go.RowKit

theorem first_word (ws : List Nat) (hw : CL.Nrm ws) (hne : ws ≠ []) (k : Nat) (hz : ∀ j, j < k → ws.getD j 0 = 0) (hk : k < ws.length) (h : ws.getD k 0 = 0) : k + 1 < ws.length := by
  by_cases h1 : k + 1 < ws.length
  · exact h1
  · have := hw.2 hne
    rw [show ws.length - 1 = k by omega] at this
    exact absurd h this

set_option maxRecDepth 100000 in
theorem nat_tz (w : World) (ao : Option Addr) (n c : Nat) (ws : List Nat) (h : Nat_ w ao n ws) (hT : Tabs w) :
    Calls Tryz.prog 131 #[.slice ao n c] w fun e w' => ∃ m : Nat, e = .returned (.int .u64 m) ∧ CL.TZ ws m ∧ w' = w := by
  obtain ⟨hlen, hl, hw, hat⟩ := h
  by_cases hne : ws = []
  · subst hne
    obtain rfl : n = 0 := hlen
    go_enter Tryz.func131, Tryz.ntmps131
    go_wp2
    go_ret
    exact ⟨0, rfl, CL.TZ.nil, rfl⟩
  · obtain ⟨g, rfl, hc⟩ := hat hne
    have hp := List.length_pos_iff.2 hne
    have HL : Hid (n = ws.length) := hlen
    have hn1 : ((n : Int) == 0) = false := by simp; omega
    have hn2 : n ≤ 2000 := by omega
    have HC : Hid (∀ j, j < ws.length → w.cell? ⟨g, j, none⟩ = some (.int .u64 (ws.getD j 0 : Nat))) := hc
    clear hc hat hlen
    go_enter Tryz.func131, Tryz.ntmps131
    go_wp2
    go_loop [3] (fun i => ∃ k : Nat, i = .int .u64 k ∧ Hid (k < ws.length ∧ ∀ j, j < k → ws.getD j 0 = 0)) (fun i => n - (intOf i).toNat)
    case atStart => exact ⟨0, rfl, hp, fun j hj => absurd hj (by omega)⟩
    case round =>
      obtain ⟨k, rfl, hk⟩ := hrel
      have hk1 := hk.out.1
      have hkn : k < n := by have := HL.out; omega
      have hcell := HC.out k hk1
      have hkI : (k : Int) < (n : Int) := by omega
      have hxl := CL.getD_lt hw.1 k
      obtain ⟨x, hx⟩ : ∃ x, x = ws.getD k 0 := ⟨_, rfl⟩
      rw [← hx] at hcell hxl
      have HX : Hid (x = ws.getD k 0) := hx
      clear hx
      by_cases hx0 : x = 0
      · subst hx0
        have hk2 := first_word ws hw hne k hk.out.2 hk1 HX.out.symm
        have Hk2 : Hid (k + 1 < ws.length) := hk2
        have hkn2 : k + 1 < n := by have := HL.out; omega
        clear hk2
        go_wp2
        go_round
        case rel => exact ⟨k + 1, by go_num, Hk2.out, fun j hj => if e : j = k then e ▸ HX.out.symm else hk.out.2 j (by omega)⟩
        case measure => simp [intOf]; omega
      · have hxb : ((x : Int) == 0) = false := by simp; omega
        obtain ⟨hlow, hct⟩ := Lib.lowest_bit 64 x hx0 hxl
        have HXL : Hid (x < 2 ^ 64) := hxl
        clear hxl hlow
        go_wp2_with fail
        refine (tz_any x HXL.out hx0 _ hT).mono ?_
        rintro e w' ⟨rfl, rfl⟩
        have hTZ : CL.TZ ws (k * 64 + Lib.ctz 64 x) := by
          obtain ⟨m, hm, _⟩ := Lib.ctzFrom_spec 64 x (by omega) HXL.out
          have ec : Lib.ctz 64 x = Lib.ctzFrom 64 x := by simp [Lib.ctz, hx0]
          rw [← ec] at hm
          exact CL.TZ.at_ k (Lib.ctz 64 x) hk1 hk.out.2 hct (2 * m + 1) (by rw [← HX.out]; exact hm)
        obtain ⟨t, ht⟩ : ∃ t, t = Lib.ctz 64 x := ⟨_, rfl⟩
        rw [← ht] at hTZ hct ⊢
        have HTZ : Hid (CL.TZ ws (k * 64 + t)) := hTZ
        clear hTZ ht
        have hwt : IntKind.u64.wrap (t : Int) = (t : Int) := by rw [IntKind.wrap_u64]; omega
        have hwm : IntKind.u64.wrap ((k : Int) * 64) = (k : Int) * 64 := by rw [IntKind.wrap_u64]; omega
        have hws : IntKind.u64.wrap ((k : Int) * 64 + t) = (k : Int) * 64 + t := by rw [IntKind.wrap_u64]; omega
        go_wp2_with fail
        go_ret
        exact ⟨_, ret_int (by push_cast; omega), HTZ.out, rfl⟩

/-- A big.Int, read. -/
theorem BigOwn.read {w : World} {b B : Nat} {ws : List Nat} (h : BigOwn w b B ws) : ∃ ao n c, w.cell? ⟨b, 0, none⟩ = some (.bool false) ∧ w.cell? ⟨b, 1, none⟩ = some (.slice ao n c) ∧ Nat_ w ao n ws := by
  obtain ⟨_, v, hb, hown, hw, hl⟩ := h
  obtain ⟨ao, c, rfl⟩ := owns_shape hown
  exact ⟨ao, _, c, row_cell (l := [.bool false, _]) hb rfl, row_cell (l := [.bool false, _]) hb rfl, Nat_.of_own hown hl hw⟩

theorem big_bitLen (w : World) (b B : Nat) (ws : List Nat) (h : BigOwn w b B ws) :
    Calls Tryz.prog 81 #[.pointer (some ⟨b, 0, none⟩)] w fun e w' => ∃ m : Nat, e = .returned (.int .i64 m) ∧ CL.BL ws m ∧ w' = w := by
  obtain ⟨ao, n, c, c0, c1, hN⟩ := h.read
  go_enter Tryz.func81, Tryz.ntmps81
  go_wp2_with fail
  refine (nat_bitLen _ ao n c ws hN).mono ?_
  rintro e w' ⟨m, rfl, hm, rfl⟩
  go_wp2_with fail
  go_ret
  exact ⟨m, rfl, hm, rfl⟩

theorem big_tz (w : World) (b B : Nat) (ws : List Nat) (h : BigOwn w b B ws) (hT : Tabs w) :
    Calls Tryz.prog 107 #[.pointer (some ⟨b, 0, none⟩)] w fun e w' => ∃ m : Nat, e = .returned (.int .u64 m) ∧ CL.TZ ws m ∧ w' = w := by
  obtain ⟨ao, n, c, c0, c1, hN⟩ := h.read
  go_enter Tryz.func107, Tryz.ntmps107
  go_wp2_with fail
  refine (nat_tz _ ao n c ws hN hT).mono ?_
  rintro e w' ⟨m, rfl, hm, rfl⟩
  go_wp2_with fail
  go_ret
  exact ⟨m, rfl, hm, rfl⟩

theorem bitI_zero (ws : List Nat) (hw : CL.Nrm ws) : bits .and .u64 ((ws.getD 0 0 : Nat) : Int) 1 = bitI ws 0 := by
  have h := bitI_of ws 0 hw
  simpa using h

set_option maxRecDepth 100000 in
theorem big_bit (w : World) (b B : Nat) (ws : List Nat) (h : BigOwn w b B ws) (k : Nat) (K : Int) (hK : K = k) (hk : k < 1000000) :
    Calls Tryz.prog 108 #[.pointer (some ⟨b, 0, none⟩), .int .i64 K] w fun e w' => e = .returned (.int .u64 (bitI ws k)) ∧ w' = w := by
  obtain ⟨ao, n, c, c0, c1, hN⟩ := h.read
  subst hK
  by_cases hk0 : k = 0
  · subst hk0
    by_cases hne : ws = []
    · subst hne
      obtain rfl : n = 0 := hN.len
      have HZ : Hid (bitI [] 0 = 0) := by show bitI [] 0 = 0; simp [bitI, CL.tb_nil]
      clear hN h
      go_enter Tryz.func108, Tryz.ntmps108
      go_wp2
      go_ret
      exact ⟨ret_int HZ.out.symm, rfl⟩
    · obtain ⟨hlen, hl, hw, hat⟩ := hN
      obtain ⟨g, rfl, hc⟩ := hat hne
      have hp := List.length_pos_iff.2 hne
      have hcell := hc 0 hp
      have hn0 : 0 < n := by omega
      have HB : Hid (bits .and .u64 ((ws.getD 0 0 : Nat) : Int) 1 = bitI ws 0) := bitI_zero ws hw
      obtain ⟨x, hx⟩ : ∃ x, x = ws.getD 0 0 := ⟨_, rfl⟩
      rw [← hx] at hcell HB
      clear hx hc hat hlen hp h
      go_enter Tryz.func108, Tryz.ntmps108
      go_wp2
      go_ret
      exact ⟨ret_int HB.out, rfl⟩
  · have hkb : ((k : Int) == 0) = false := by simp; omega
    have hkw : IntKind.u64.wrap (k : Int) = (k : Int) := by rw [IntKind.wrap_u64]; omega
    have hk0' : (0 : Int) ≤ k := by omega
    clear h
    go_enter Tryz.func108, Tryz.ntmps108
    go_wp2_with fail
    refine (nat_bit_any _ ao n c ws hN k _ rfl hk).mono ?_
    rintro e w' ⟨rfl, rfl⟩
    go_wp2_with fail
    go_ret
    exact ⟨rfl, rfl⟩
end Go.Proofs.YtdmggcbbfljciaaGreatDoor
