/- The listed tables; math/bits.TrailingZeros; bit, bitLen, trailingZeroBits of a nat. -/
import Derived.Test.YtdmggcbbfljciaaGreatDoorNat3
import Derived.Test.YtdmggcbbfljciaaGreatDoorShelf
import Derived.Lib.TrailingZeros
import Derived.Lib.LaidTab
namespace Go.Proofs.YtdmggcbbfljciaaGreatDoor
open Go.RowKit

/-- WHAT THE LISTED TABLES HOLD, in a world. -/
structure Tabs (w : World) : Prop where
  pow : Lib.TabIs Tryz.prog w "internal/strconv.uint64pow10" .u64 Lib.pow10Tab
  tz : ∀ j, j < Lib.deBruijn64tab.length → w.cell? ⟨8, j, none⟩ = some (.int .u8 (Lib.deBruijn64tab.getD j 0 : Nat))

theorem gpow : Tryz.prog.globalNamed "internal/strconv.uint64pow10" = some 4 := by kernel_rfl

theorem Tabs.below {w w' : World} (h : Tabs w) (hb : Below w.heap.size w w') : Tabs w' := by
  refine ⟨?_, fun j hj => (hb.cell (World.block_lt_of_cell? w _ (h.tz j hj))).trans (h.tz j hj)⟩
  have h1 := h.pow
  unfold Lib.TabIs World.var? at h1 ⊢
  rw [gpow] at h1 ⊢
  simp only [Option.bind_some] at h1 ⊢
  have hlt : 4 < w.heap.size := by
    rcases Nat.lt_or_ge 4 w.heap.size with h' | h'
    · exact h'
    · rw [Array.getElem?_eq_none h'] at h1; cases h1
  rw [hb.block _ hlt]
  exact h1

theorem tz64_core (x k idx : Nat) (w : World) (hx0 : ((x : Int) == 0) = false)
    (key : IntKind.u64.wrap (bits BinOp.and IntKind.u64 (x : Int) (IntKind.u64.wrap (-(x : Int))) * 285870213051353865) / 288230376151711744 = (idx : Int))
    (hi : idx < 64) (hk : k < 64) (hcell : w.cell? ⟨8, idx, none⟩ = some (.int .u8 k)) :
    Calls Tryz.prog 164 #[.int .u64 x] w fun e w' => e = .returned (.int .i64 k) ∧ w' = w := by
  go_enter Tryz.func164, Tryz.ntmps164
  go_wp2_with (simp only [key])
  go_ret
  exact ⟨rfl, rfl⟩

theorem tz64_key (x a : Nat) (hx : x < 18446744073709551616) (hlow : x &&& (18446744073709551616 - x) = a) (hx0 : x ≠ 0) :
    IntKind.u64.wrap (bits BinOp.and IntKind.u64 (x : Int) (IntKind.u64.wrap (-(x : Int))) * 285870213051353865) / 288230376151711744 = ((a * 285870213051353865 % 18446744073709551616 / 288230376151711744 : Nat) : Int) := by
  have e1 : IntKind.u64.wrap (-(x : Int)) = ((18446744073709551616 - x : Nat) : Int) := by rw [IntKind.wrap_u64]; omega
  rw [e1, bits_and_u64_nat x _ hx (by omega), hlow, IntKind.wrap_u64]
  omega

theorem tz64 (x : Nat) (hx : x < 2 ^ 64) (hx0 : x ≠ 0) (w : World) (hT : Tabs w) :
    Calls Tryz.prog 164 #[.int .u64 x] w fun e w' => e = .returned (.int .i64 (Lib.ctz 64 x : Nat)) ∧ w' = w := by
  obtain ⟨hlow, hk⟩ := Lib.lowest_bit 64 x hx0 hx
  obtain ⟨hi, htab⟩ := Lib.deBruijn64_at _ hk
  have hcell := hT.tz _ hi
  rw [htab] at hcell
  exact tz64_core x _ _ w (by simp; omega) (tz64_key x _ hx hlow hx0) hi hk hcell

set_option maxRecDepth 100000 in
theorem tz_any (x : Nat) (hx : x < 2 ^ 64) (hx0 : x ≠ 0) (w : World) (hT : Tabs w) :
    Calls Tryz.prog 151 #[.int .u64 x] w fun e w' => e = .returned (.int .i64 (Lib.ctz 64 x : Nat)) ∧ w' = w := by
  go_enter Tryz.func151, Tryz.ntmps151
  go_wp2_with fail
  refine (tz64 x hx hx0 _ hT).mono ?_
  rintro e w' ⟨rfl, rfl⟩
  go_wp2_with fail
  go_ret
  exact ⟨rfl, rfl⟩

/-- A nat's words, read: the slice leads to them. -/
structure Nat_ (w : World) (ao : Option Addr) (n : Nat) (ws : List Nat) : Prop where
  len : n = ws.length
  lim : ws.length ≤ 2000
  nrm : CL.Nrm ws
  at_ : ws ≠ [] → ∃ g, ao = some ⟨g, 0, none⟩ ∧ ∀ j, j < ws.length → w.cell? ⟨g, j, none⟩ = some (.int .u64 (ws.getD j 0 : Nat))

theorem Nat_.of_own {w : World} {B c n : Nat} {ao : Option Addr} {ws : List Nat} (h : w.ownsRow B 207 1 (.slice ao n c) ws.length (words ws)) (hl : ws.length ≤ 2000) (hw : CL.Nrm ws) : Nat_ w ao n ws := by
  obtain ⟨ao', c', he⟩ := owns_shape h
  simp only [Value.slice.injEq] at he
  obtain ⟨rfl, rfl, rfl⟩ := he
  refine ⟨rfl, hl, hw, fun hne => ?_⟩
  rcases h.2 with ⟨_, h0⟩ | ⟨g, cap, cur, he, _⟩
  · exact absurd (List.eq_nil_of_length_eq_zero h0) hne
  · simp only [Value.slice.injEq] at he
    obtain ⟨rfl, _, rfl⟩ := he
    refine ⟨g, rfl, fun j hj => ?_⟩
    rw [h.cellAt j (by omega), words_at ws j hj]

theorem ret_int {k : IntKind} {a b : Int} (h : a = b) : Ending.returned (.int k a) = .returned (.int k b) := by rw [h]

def bitI (ws : List Nat) (k : Nat) : Int := if CL.tb ws k then 1 else 0
theorem bitI_of (ws : List Nat) (k : Nat) (hw : CL.Nrm ws) : bits .and .u64 (((ws.getD (k / 64) 0 : Nat) : Int) / 2 ^ (k % 64)) 1 = bitI ws k := by
  have hx := CL.getD_lt hw.1 (k / 64)
  unfold bitI CL.tb
  generalize ws.getD (k / 64) 0 = x at *
  have e1 : (x : Int) / 2 ^ (k % 64) = ((x / 2 ^ (k % 64) : Nat) : Int) := by push_cast; rfl
  have hlt : x / 2 ^ (k % 64) < 2 ^ 64 := Nat.lt_of_le_of_lt (Nat.div_le_self _ _) hx
  have e2 := bits_and_u64_nat (x / 2 ^ (k % 64)) 1 hlt (by decide)
  rw [e1]
  refine e2.trans ?_
  rw [Nat.and_one_is_mod, Nat.testBit_eq_decide_div_mod_eq]
  by_cases h : x / 2 ^ (k % 64) % 2 = 1
  · simp [h]
  · have : x / 2 ^ (k % 64) % 2 = 0 := by omega
    simp [this]

theorem nat_bit_any (w : World) (ao : Option Addr) (n c : Nat) (ws : List Nat) (h : Nat_ w ao n ws) (k : Nat) (K : Int) (hK : K = k) (hk : k < 1000000) :
    Calls Tryz.prog 134 #[.slice ao n c, .int .u64 K] w fun e w' => e = .returned (.int .u64 (bitI ws k)) ∧ w' = w := by
  obtain ⟨hlen, hl, hw, hat⟩ := h
  subst hK
  have k0 : (0 : Int) ≤ k := by omega
  have hwr : IntKind.u64.wrap (n : Int) = (n : Int) := by rw [IntKind.wrap_u64]; omega
  by_cases hin : k / 64 < ws.length
  · obtain ⟨g, rfl, hc⟩ := hat (fun e => by rw [e] at hin; simp at hin)
    have hcell := hc _ hin
    have hinn : (k : Int) / 64 < (n : Int) := by omega
    have e64 : ((k : Int) / 64).toNat = k / 64 := by omega
    obtain ⟨x, hx⟩ : ∃ x, x = ws.getD (k / 64) 0 := ⟨_, rfl⟩
    rw [← hx] at hcell
    have HX : Hid (x = ws.getD (k / 64) 0) := hx
    clear hx hc hat
    have HL : Hid (n = ws.length) := hlen
    clear hlen
    go_enter Tryz.func134, Tryz.ntmps134
    go_wp2
    go_ret
    exact ⟨ret_int (by rw [← bitI_of ws k hw, ← HX.out]), rfl⟩
  · have hout : (n : Int) ≤ (k : Int) / 64 := by omega
    have hz : bitI ws k = 0 := by
      unfold bitI
      rw [CL.tb_beyond ws k (by omega)]; rfl
    have HZ : Hid (bitI ws k = 0) := hz
    clear hz hlen hat
    go_enter Tryz.func134, Tryz.ntmps134
    go_wp2
    go_ret
    exact ⟨ret_int HZ.out.symm, rfl⟩

theorem or_sh (a k p : Nat) (hp : p = 2 ^ k) (ha : a < 2 ^ 64) : bits .or .u64 (a : Int) ((a : Int) / (p : Int)) = ((a ||| a >>> k : Nat) : Int) ∧ a ||| a >>> k < 2 ^ 64 := by
  subst hp
  have e1 : (a : Int) / ((2 ^ k : Nat) : Int) = ((a / 2 ^ k : Nat) : Int) := by push_cast; rfl
  have hlt : a / 2 ^ k < 2 ^ 64 := Nat.lt_of_le_of_lt (Nat.div_le_self _ _) ha
  refine ⟨?_, CL.or_shift_lt a 64 k ha⟩
  rw [e1, Nat.shiftRight_eq_div_pow]
  exact bits_or_u64_nat a _ ha hlt

theorem bitLen_top (y m : Nat) (h1 : 2 ^ m ≤ y) (h2 : y < 2 ^ (m + 1)) (h3 : y < 2 ^ 64) : Lib.bitLen y = m + 1 := by
  rw [Lib.bitLen_shift m y h1 h3]
  have : y / 2 ^ m = 1 := by
    apply Nat.div_eq_of_lt_le
    · simpa using h1
    · rw [Nat.pow_succ] at h2; omega
  rw [this]; rfl

/-- Its length in bits. -/
theorem nat_bitLen (w : World) (ao : Option Addr) (n c : Nat) (ws : List Nat) (h : Nat_ w ao n ws) :
    Calls Tryz.prog 106 #[.slice ao n c] w fun e w' => ∃ m : Nat, e = .returned (.int .i64 m) ∧ CL.BL ws m ∧ w' = w := by
  obtain ⟨hlen, hl, hw, hat⟩ := h
  by_cases hne : ws = []
  · subst hne
    obtain rfl : n = 0 := hlen
    go_enter Tryz.func106, Tryz.ntmps106
    go_wp2
    go_ret
    exact ⟨0, rfl, CL.BL.nil, rfl⟩
  · obtain ⟨g, rfl, hc⟩ := hat hne
    have hp := List.length_pos_iff.2 hne
    have hcell := hc (n - 1) (by omega)
    have hx0 := hw.2 hne
    have hx1 := CL.getD_lt hw.1 (ws.length - 1)
    rw [← hlen] at hx0 hx1
    obtain ⟨x, hx⟩ : ∃ x, x = ws.getD (n - 1) 0 := ⟨_, rfl⟩
    rw [← hx] at hcell hx0 hx1
    have HX : Hid (x = ws.getD (n - 1) 0) := hx
    have HL : Hid (n = ws.length) := hlen
    have hn1 : 1 ≤ n := by omega
    have hn2 : n ≤ 2000 := by omega
    have en : ((n : Int) - 1).toNat = n - 1 := by omega
    clear hx hc hat hp hlen
    go_enter Tryz.func106, Tryz.ntmps106
    go_wp2_with fail
    obtain ⟨r1, b1⟩ := or_sh x 1 2 rfl hx1
    rw [show ((2 : Nat) : Int) = 2 from rfl] at r1
    obtain ⟨x1, e1⟩ : ∃ x1, x1 = x ||| x >>> 1 := ⟨_, rfl⟩
    rw [← e1] at r1 b1
    rw [r1]
    clear r1
    obtain ⟨r2, b2⟩ := or_sh x1 2 4 rfl b1
    rw [show ((4 : Nat) : Int) = 4 from rfl] at r2
    obtain ⟨x2, e2⟩ : ∃ x2, x2 = x1 ||| x1 >>> 2 := ⟨_, rfl⟩
    rw [← e2] at r2 b2
    rw [r2]
    clear r2
    obtain ⟨r3, b3⟩ := or_sh x2 4 16 rfl b2
    rw [show ((16 : Nat) : Int) = 16 from rfl] at r3
    obtain ⟨x3, e3⟩ : ∃ x3, x3 = x2 ||| x2 >>> 4 := ⟨_, rfl⟩
    rw [← e3] at r3 b3
    rw [r3]
    clear r3
    obtain ⟨r4, b4⟩ := or_sh x3 8 256 rfl b3
    rw [show ((256 : Nat) : Int) = 256 from rfl] at r4
    obtain ⟨x4, e4⟩ : ∃ x4, x4 = x3 ||| x3 >>> 8 := ⟨_, rfl⟩
    rw [← e4] at r4 b4
    rw [r4]
    clear r4
    obtain ⟨r5, b5⟩ := or_sh x4 16 65536 rfl b4
    rw [show ((65536 : Nat) : Int) = 65536 from rfl] at r5
    obtain ⟨x5, e5⟩ : ∃ x5, x5 = x4 ||| x4 >>> 16 := ⟨_, rfl⟩
    rw [← e5] at r5 b5
    rw [r5]
    clear r5
    have e6a : (x5 : Int) / 65536 / 65536 = ((x5 / 4294967296 : Nat) : Int) := by omega
    obtain ⟨r6, b6⟩ := or_sh x5 32 4294967296 rfl b5
    rw [show (x5 : Int) / ((4294967296 : Nat) : Int) = ((x5 / 4294967296 : Nat) : Int) by omega] at r6
    rw [e6a, r6]
    clear r6 e6a
    have hsm : x5 ||| x5 >>> 32 = CL.smear x := by
      rw [e5, e4, e3, e2, e1]
      unfold CL.smear
      simp only [← Nat.shiftRight_add]
    rw [hsm] at b6 ⊢
    clear hsm e1 e2 e3 e4 e5 b1 b2 b3 b4 b5
    have hs1 := CL.smear_ge x
    have hm1 := Nat.log2_self_le hx0
    have hm2 : x < 2 ^ (x.log2 + 1) := Nat.lt_log2_self
    have hs2 := CL.smear_lt x (x.log2 + 1) hm2
    have hbl := bitLen_top (CL.smear x) x.log2 (Nat.le_trans hm1 hs1) hs2 b6
    have hm64 : x.log2 < 64 := (Nat.log2_lt hx0).2 hx1
    refine (Tryz.bits_Len _ _ (by omega) (by omega)).mono ?_
    rw [Int.toNat_natCast, hbl]
    rintro e w' ⟨rfl, rfl⟩
    have hBL := CL.BL.top hne hw x.log2 hm64 (by rw [← HL.out, ← HX.out]; exact hm1) (by rw [← HL.out, ← HX.out]; exact hm2)
    rw [← HL.out] at hBL
    have HBL : Hid (CL.BL ws ((n - 1) * 64 + (x.log2 + 1))) := hBL
    obtain ⟨m, hm⟩ : ∃ m, m = x.log2 := ⟨_, rfl⟩
    rw [← hm] at HBL hm64 ⊢
    clear hBL hm hm1 hm2 hs1 hs2 hbl b6 hx1 hx0
    go_wp2_with fail
    go_ret
    exact ⟨_, ret_int (by push_cast; omega), HBL.out, rfl⟩
end Go.Proofs.YtdmggcbbfljciaaGreatDoor
