/- (spec.Published).Mappings. -/
import Derived.Test.YtdmggcbbfljciaaGreatDoorPubE
import Derived.Test.YtdmggcbbfljciaaGreatDoorPubB
import Derived.Deep.AppendLies
namespace Go.Proofs.YtdmggcbbfljciaaGreatDoor
open Go.RowKit Go.Lib

theorem info40 : (Tryz.prog.info? 40).map (fun i => (i.zero, i.size, i.bytes)) = some (some (.agg #[.string ⟨#[]⟩, .string ⟨#[]⟩, .string ⟨#[]⟩]), 3, 48) := by kernel_rfl

theorem dec_txN (n : Nat) (N : Int) (hN : N = n) (hn : n ≤ 1073741824) (w : World) : Calls Tryz.prog 29 #[.int .i64 N] w fun e w' => e = .returned (.string (tx (decDigits n))) ∧ Below w.heap.size w w' := by
  subst hN; exact dec_tx n hn w

set_option maxRecDepth 100000 in
set_option maxHeartbeats 16000000 in
theorem maps_many (a b h g : Nat) (hab : a ≠ b) (p : Pub) (ea : p.a = a) (eb : p.b = b) (eh : p.h = h) (eg : p.g = g) (hp : p.Ok) (w : World) :
    Calls Tryz.prog 13 #[.agg #[.int .i64 a, .int .i64 b, .string (tx p.proto), .string (tx p.ip), .int .i64 h, .int .i64 g]] w fun e w' => ∃ gg c : Nat, e = .returned (.slice (some ⟨gg, 0, none⟩) p.ms.length c) ∧ w.heap.size ≤ gg ∧ M3At w' gg p.ms ∧ Below w.heap.size w w' := by
  obtain ⟨i0, hi, hz0, hz1, hz2⟩ := info_parts info40
  have b9 : b ≤ 65535 := by have h' := hp.b9; rw [eb] at h'; exact h'
  have ab : a ≤ b := by have h' := hp.ab; rw [ea, eb] at h'; exact h'
  have n2 : b - a ≤ 200 := by have h' := hp.n; rw [ea, eb] at h'; exact h'
  have hg3 : h ≤ 65535 ∧ g ≤ 65535 ∧ h ≤ g := by have h' := Pub.host_ok hp; rw [eh, eg] at h'; exact h'
  obtain ⟨h9, g9, hgg⟩ := hg3
  have Hm2 : Hid (∀ i, (p.m i).2.2 = if h = 0 then [] else if a = b then numT h g else decDigits (h + i)) := by
    intro i
    show (if p.h = 0 then [] else if p.a = p.b then numT p.h p.g else decDigits (p.h + i)) = _
    rw [ea, eb, eh, eg]
  have Hm1 : Hid (∀ i, (p.m i).1 = decDigits (a + i) ++ 47 :: p.proto) := by
    intro i
    show decDigits (p.a + i) ++ 47 :: p.proto = _
    rw [ea]
  have HmsN : Hid (p.ms.length = b - a + 1) := by
    show _ = _
    rw [p.ms_len, ea, eb]
  have HmsT : Hid (∀ i, i < b - a + 1 → p.ms.take (i + 1) = p.ms.take i ++ [p.m i]) := by
    intro i hi'
    exact p.ms_take i (by rw [ea, eb]; exact hi')
  have hpl : p.proto.length ≤ 4 := by rcases hp.pr with h | h | h <;> rw [h] <;> decide
  have Hpl := Lib.hid hpl
  have zp : (tx p.proto).size ≤ 4 := by rw [tx_size]; exact hpl
  have zi : (tx p.ip).size ≤ 15 := by rw [tx_size]; exact (Pub.ip_len hp).1
  obtain ⟨N, hN⟩ : ∃ N, N = b - a + 1 := ⟨_, rfl⟩
  have HN : Hid (b - a + 1 = N) := hN.symm
  have HNi : Hid ((N : Int) = (b : Int) - (a : Int) + 1) := (show _ = _ by omega)
  have HNle : N ≤ 201 := by omega
  have hN1 : 1 ≤ N := by omega
  have dab : ((a : Int) == (b : Int)) = false := beq_eq_false_iff_ne.2 (by omega)
  have HV : Hid (Below w.heap.size w (w.alloc (.cells #[.int .i64 a, .int .i64 b, .string (tx p.proto), .string (tx p.ip), .int .i64 h, .int .i64 g] 25))) := (Below.refl _ _).alloc (Nat.le_refl _) _
  have HC := Lib.hid (C6.new w (.int .i64 a) (.int .i64 b) (.string (tx p.proto)) (.string (tx p.ip)) (.int .i64 h) (.int .i64 g) 25)
  have hlt0 : w.heap.size < (w.alloc (.cells #[.int .i64 a, .int .i64 b, .string (tx p.proto), .string (tx p.ip), .int .i64 h, .int .i64 g] 25)).heap.size := by simp
  clear hp hN ea eb eh eg hpl
  go_enter Tryz.func13, Tryz.ntmps13
  go_upto_region 1 with fail
  generalize (w.alloc (.cells #[.int .i64 a, .int .i64 b, .string (tx p.proto), .string (tx p.ip), .int .i64 h, .int .i64 g] 25)) = V at *
  obtain ⟨c0, c1, c2, c3, c4, c5, -⟩ := HC.out
  have Hown0 : Hid (V.ownsRow V.heap.size 40 3 (.slice none 0 0) 0 (m3V (p.ms.take 0))) := ⟨rfl, Or.inl ⟨rfl, rfl⟩⟩
  go_wp2_with fail
  clear c0 c1 c2 c3 c4 c5
  go_loopg [3, 14] (N + 1) (fun m sv iv wr => ∃ i : Nat, iv = .int .i64 i ∧ Hid (m + i = N + 1) ∧ i ≤ N ∧ Hid (wr.ownsRow V.heap.size 40 3 sv i (m3V (p.ms.take i))) ∧ Hid (Below V.heap.size V wr))
  case atStart => exact ⟨0, rfl, rfl, Nat.zero_le _, Hown0.out, Below.refl _ _⟩
  case round =>
    obtain ⟨i, rfl, hm, hiN, hown, hbel⟩ := hrel
    obtain ⟨ao, cc, rfl⟩ := owns_shape3 hown.out
    by_cases hin : i < N
    · obtain ⟨c0, c1, c2, c3, c4, c5, -⟩ := C6.keep hlt0 HC.out hbel.out
      have hlt : decide ((i : Int) < ((b : Int) - (a : Int) + 1)) = true := decide_eq_true (by have := HNi.out; omega)
      go_upto_region 6 with fail
      go_cut [14, 19] from 14 to 55 (fun s14 s19 wc => s14 = .int .i64 i ∧ s19 = .bool (decide (h ≠ 0)) ∧ wc = wr)
      case first =>
        by_cases h0 : h = 0
        · have d1 : decide ((h : Int) > 0) = false := decide_eq_false (by omega)
          have d1n : decide (0 < h) = false := decide_eq_false (by omega)
          have D : Hid (decide (h ≠ 0) = false) := decide_eq_false (fun e => e h0)
          clear h0
          go_wp2_with fail
          go_meet
          case rel => exact ⟨rfl, by rw [D.out], rfl⟩
        · have d1 : decide ((h : Int) > 0) = true := decide_eq_true (by omega)
          have d1n : decide (0 < h) = true := decide_eq_true (by omega)
          have D : Hid (decide (h ≠ 0) = true) := decide_eq_true h0
          clear h0
          go_wp2_with fail
          go_meet
          case rel => exact ⟨rfl, by rw [D.out], rfl⟩
      case rest =>
      obtain ⟨rfl, rfl, hww⟩ := hcut
      subst hww
      obtain ⟨wr, hww⟩ : ∃ X, X = wc := ⟨_, rfl⟩
      subst hww
      go_upto_if 19 with fail
      go_cut [5, 14] from 14 to 55 (fun s5 s14 wc => s5 = .string (tx (p.m i).2.2) ∧ s14 = .int .i64 i ∧ Below wr.heap.size wr wc)
      case first =>
        by_cases h0 : h = 0
        · rw [decide_eq_false (fun e => e h0)]
          have E2 : Hid (tx (p.m i).2.2 = tx []) := by show _ = _; rw [Hm2.out, if_pos h0]
          clear h0
          go_wp2_with fail
          go_meet
          case rel => exact ⟨by rw [E2.out]; rfl, rfl, Below.refl _ _⟩
        · rw [decide_eq_true h0]
          have Hi1 := Lib.hid (fun W => dec_txN (h + i) ((h : Int) + (i : Int)) (by omega) (by omega) W)
          have Hn := Lib.hid (numbers_any h g h9 g9)
          have E2 : Hid (tx (p.m i).2.2 = tx (decDigits (h + i))) := by show _ = _; rw [Hm2.out, if_neg h0, if_neg hab]
          clear h0
          go_wp2_with fail
          refine (Hi1.out _).mono ?_
          rintro e w7 ⟨rfl, hb7⟩
          clear c0 c1 c2 c3 c4 c5
          obtain ⟨c0, c1, c2, c3, c4, c5, -⟩ := C6.keep hlt0 HC.out (bl6 hb7 hbel.out)
          go_wp2_with fail
          go_meet
          case rel => exact ⟨by rw [E2.out], rfl, hb7⟩
      case rest =>
      obtain ⟨rfl, rfl, hbc⟩ := hcut
      have Hb5 : Hid (Below V.heap.size V wc) := bl6 hbc hbel.out
      have Hown5 := Lib.hid (own_below3 hown.out hbc)
      have Hi3 := Lib.hid (fun W => dec_txN (a + i) (IntKind.i64.wrap ((a : Int) + (i : Int))) (by rw [IntKind.wrap_i64]; omega) (by omega) W)
      have z1 : (tx (decDigits (a + i))).size ≤ 66000 := by rw [tx_size]; have := dec_len (a + i); omega
      have e47 : (⟨#[47]⟩ : ByteArray) = tx [47] := rfl
      have ha1 := add_tx (decDigits (a + i)) [47] (by have := dec_len (a + i); simp; omega)
      have ha2 := add_tx (decDigits (a + i) ++ [47]) p.proto (by have := dec_len (a + i); have := Hpl.out; simp; omega)
      rw [← e47] at ha1
      have HM1 : Hid (tx (p.m i).1 = tx (decDigits (a + i) ++ 47 :: p.proto)) := by
        show _ = _
        rw [Hm1.out i]
      have hin2 : (p.m i).2.1 = p.ip := rfl
      have Hin2 := Lib.hid hin2
      clear hbc hown hbel hin2 c0 c1 c2 c3 c4 c5 e47
      obtain ⟨c0, c1, c2, c3, c4, c5, HB3⟩ := C6.keep hlt0 HC.out Hb5.out
      obtain ⟨hst, hHst⟩ : ∃ x, x = tx (p.m i).2.2 := ⟨_, rfl⟩
      rw [← hHst]
      have Hst := Lib.hid hHst
      clear hHst
      have HX3 : Hid (Below wc.heap.size wc wc) := Below.refl _ _
      go_upto_region 10 with fail
      go_region_held3 (fun W => W.cell? ⟨w.heap.size, 0, none⟩ = some (.int .i64 a) ∧ W.cell? ⟨w.heap.size, 1, none⟩ = some (.int .i64 b) ∧ W.cell? ⟨w.heap.size, 2, none⟩ = some (.string (tx p.proto)) ∧ W.cell? ⟨w.heap.size, 3, none⟩ = some (.string (tx p.ip)) ∧ W.cell? ⟨w.heap.size, 4, none⟩ = some (.int .i64 h) ∧ W.cell? ⟨w.heap.size, 5, none⟩ = some (.int .i64 g) ∧ Below V.heap.size V W)
          (first | exact C6.keep hlt0 HC.out HB3 | exact C6.keep hlt0 HC.out HB3.drew | exact C6.keep hlt0 HC.out (HB3.alloc HB3.size _) | exact C6.keep hlt0 HC.out (HB3.alloc HB3.size _).drew | exact C6.keep hlt0 HC.out (HB3.drew.alloc HB3.drew.size _) | exact C6.keep hlt0 HC.out (HB3.drew.alloc HB3.drew.size _).drew)
          (first | (go_at_call 29; (with_reducible refine (Hi3.out _).mono ?_); rintro e w8 ⟨rfl, hb8⟩; have HB3 := (by first | exact bl6 hb8 HB3 | exact bl6 hb8 HB3.drew : Below V.heap.size V w8); have HX3 : Hid (Below wc.heap.size wc w8) := (by first | exact bl6 hb8 HX3.out | exact bl6 hb8 HX3.out.drew); obtain ⟨c0, c1, c2, c3, c4, c5, -⟩ := C6.keep hlt0 HC.out HB3) | ((refine step_append_lies _ (by rfl) _ _ _ (by rfl) V.heap.size 40 i0 (.agg #[.string ⟨#[]⟩, .string ⟨#[]⟩, .string ⟨#[]⟩]) 3 48 Tryz.underlying33 hi hz0 hz1 hz2 rfl (by decide) (.slice ao i cc) i (m3V (p.ms.take i)) (by rfl) (by first | exact own_below3 Hown5.out (HX3.out.alloc HX3.out.size _) | exact own_below3 Hown5.out (HX3.out.drew.alloc HX3.out.drew.size _)) ⟨_, 0, none⟩ 1 1 [.string (tx (decDigits (a + i) ++ 47 :: p.proto)), .string (tx p.ip), .string hst] (by rfl) rfl (cell_three_new _ _ _ _ _) (three_str _ _ _) (by decide) (by unfold maxLen; omega) (by omega) (by first | exact (HB3.alloc HB3.size _).size | exact (HB3.drew.alloc HB3.drew.size _).size) _ rfl ?_); intro gq cap w9 hown9 hgrow9 hat hltq; have HB3 : Below V.heap.size V w9 := (by first | exact (HB3.alloc HB3.size _).grown hgrow9 (by simp; have := HB3.size; omega) (own_block_ge3 Hown5.out) | exact (HB3.drew.alloc HB3.drew.size _).grown hgrow9 (by simp; have := HB3.size; omega) (own_block_ge3 Hown5.out)); obtain ⟨c0, c1, c2, c3, c4, c5, -⟩ := C6.keep hlt0 HC.out HB3))
      go_wp2_with fail
      go_roundg (gk - 1)
      case measure => have := hm.out; omega
      case rel =>
        have e1 := hm.out
        refine ⟨i + 1, by go_num, show _ = _ by omega, by omega, ?_, ?_⟩
        · show World.ownsRow _ _ _ _ _ _ _
          rw [HmsT.out i (by have := HN.out; omega), m3V_snoc, HM1.out, Hin2.out, ← Hst.out]
          exact hown9
        · first | exact HB3 | exact HB3.drew
    · obtain rfl : i = N := by omega
      have hlt : decide ((i : Int) < ((b : Int) - (a : Int) + 1)) = false := decide_eq_false (by have := HNi.out; omega)
      have hlen : i = p.ms.length := by rw [HmsN.out]; exact HN.out.symm
      have Hfin : Hid (∃ gg c, Value.slice ao i cc = .slice (some ⟨gg, 0, none⟩) p.ms.length c ∧ V.heap.size ≤ gg ∧ M3At wr gg p.ms) := by
        have h := hown.out
        rw [hlen, List.take_length] at h
        obtain ⟨gg, c, e, hg, hm3⟩ := m3_of_own h rfl (by omega)
        exact ⟨gg, c, by rw [hlen]; exact e, hg, hm3⟩
      clear hown hlen
      go_wp2_with fail
      go_ret
      obtain ⟨gg, c, e, hg, hm3⟩ := Hfin.out
      exact ⟨gg, c, by rw [← e]; rfl, Nat.le_trans HV.out.size hg, hm3, HV.out.trans (hbel.out.mono HV.out.size)⟩

set_option maxRecDepth 100000 in
set_option maxHeartbeats 16000000 in
theorem maps_one (a h g : Nat) (p : Pub) (ea : p.a = a) (eb : p.b = a) (eh : p.h = h) (eg : p.g = g) (hp : p.Ok) (w : World) :
    Calls Tryz.prog 13 #[.agg #[.int .i64 a, .int .i64 a, .string (tx p.proto), .string (tx p.ip), .int .i64 h, .int .i64 g]] w fun e w' => ∃ gg c : Nat, e = .returned (.slice (some ⟨gg, 0, none⟩) p.ms.length c) ∧ w.heap.size ≤ gg ∧ M3At w' gg p.ms ∧ Below w.heap.size w w' := by
  obtain ⟨i0, hi, hz0, hz1, hz2⟩ := info_parts info40
  have b9 : a ≤ 65535 := by have h' := hp.b9; rw [eb] at h'; exact h'
  have ab : a ≤ a := by have h' := hp.ab; rw [ea, eb] at h'; exact h'
  have n2 : a - a ≤ 200 := by have h' := hp.n; rw [ea, eb] at h'; exact h'
  have hg3 : h ≤ 65535 ∧ g ≤ 65535 ∧ h ≤ g := by have h' := Pub.host_ok hp; rw [eh, eg] at h'; exact h'
  obtain ⟨h9, g9, hgg⟩ := hg3
  have Hm2 : Hid (∀ i, (p.m i).2.2 = if h = 0 then [] else if a = a then numT h g else decDigits (h + i)) := by
    intro i
    show (if p.h = 0 then [] else if p.a = p.b then numT p.h p.g else decDigits (p.h + i)) = _
    rw [ea, eb, eh, eg]
  have Hm1 : Hid (∀ i, (p.m i).1 = decDigits (a + i) ++ 47 :: p.proto) := by
    intro i
    show decDigits (p.a + i) ++ 47 :: p.proto = _
    rw [ea]
  have HmsN : Hid (p.ms.length = a - a + 1) := by
    show _ = _
    rw [p.ms_len, ea, eb]
  have HmsT : Hid (∀ i, i < a - a + 1 → p.ms.take (i + 1) = p.ms.take i ++ [p.m i]) := by
    intro i hi'
    exact p.ms_take i (by rw [ea, eb]; exact hi')
  have hpl : p.proto.length ≤ 4 := by rcases hp.pr with h | h | h <;> rw [h] <;> decide
  have Hpl := Lib.hid hpl
  have zp : (tx p.proto).size ≤ 4 := by rw [tx_size]; exact hpl
  have zi : (tx p.ip).size ≤ 15 := by rw [tx_size]; exact (Pub.ip_len hp).1
  obtain ⟨N, hN⟩ : ∃ N, N = a - a + 1 := ⟨_, rfl⟩
  have HN : Hid (a - a + 1 = N) := hN.symm
  have HNi : Hid ((N : Int) = (a : Int) - (a : Int) + 1) := (show _ = _ by omega)
  have HNle : N ≤ 201 := by omega
  have hN1 : 1 ≤ N := by omega

  have HV : Hid (Below w.heap.size w (w.alloc (.cells #[.int .i64 a, .int .i64 a, .string (tx p.proto), .string (tx p.ip), .int .i64 h, .int .i64 g] 25))) := (Below.refl _ _).alloc (Nat.le_refl _) _
  have HC := Lib.hid (C6.new w (.int .i64 a) (.int .i64 a) (.string (tx p.proto)) (.string (tx p.ip)) (.int .i64 h) (.int .i64 g) 25)
  have hlt0 : w.heap.size < (w.alloc (.cells #[.int .i64 a, .int .i64 a, .string (tx p.proto), .string (tx p.ip), .int .i64 h, .int .i64 g] 25)).heap.size := by simp
  clear hp hN ea eb eh eg hpl
  go_enter Tryz.func13, Tryz.ntmps13
  go_upto_region 1 with fail
  generalize (w.alloc (.cells #[.int .i64 a, .int .i64 a, .string (tx p.proto), .string (tx p.ip), .int .i64 h, .int .i64 g] 25)) = V at *
  obtain ⟨c0, c1, c2, c3, c4, c5, -⟩ := HC.out
  have Hown0 : Hid (V.ownsRow V.heap.size 40 3 (.slice none 0 0) 0 (m3V (p.ms.take 0))) := ⟨rfl, Or.inl ⟨rfl, rfl⟩⟩
  go_wp2_with fail
  clear c0 c1 c2 c3 c4 c5
  go_loopg [3, 14] (N + 1) (fun m sv iv wr => ∃ i : Nat, iv = .int .i64 i ∧ Hid (m + i = N + 1) ∧ i ≤ N ∧ Hid (wr.ownsRow V.heap.size 40 3 sv i (m3V (p.ms.take i))) ∧ Hid (Below V.heap.size V wr))
  case atStart => exact ⟨0, rfl, rfl, Nat.zero_le _, Hown0.out, Below.refl _ _⟩
  case round =>
    obtain ⟨i, rfl, hm, hiN, hown, hbel⟩ := hrel
    obtain ⟨ao, cc, rfl⟩ := owns_shape3 hown.out
    by_cases hin : i < N
    · obtain ⟨c0, c1, c2, c3, c4, c5, -⟩ := C6.keep hlt0 HC.out hbel.out
      have hlt : decide ((i : Int) < 1) = true := decide_eq_true (by have := HNi.out; omega)
      have hlt2 : decide ((i : Int) < ((a : Int) - (a : Int) + 1)) = true := decide_eq_true (by have := HNi.out; omega)
      go_upto_region 6 with fail
      go_cut [14, 19] from 14 to 55 (fun s14 s19 wc => s14 = .int .i64 i ∧ s19 = .bool (decide (h ≠ 0)) ∧ wc = wr)
      case first =>
        by_cases h0 : h = 0
        · have d1 : decide ((h : Int) > 0) = false := decide_eq_false (by omega)
          have d1n : decide (0 < h) = false := decide_eq_false (by omega)
          have D : Hid (decide (h ≠ 0) = false) := decide_eq_false (fun e => e h0)
          clear h0
          go_wp2_with fail
          go_meet
          case rel => exact ⟨rfl, by rw [D.out], rfl⟩
        · have d1 : decide ((h : Int) > 0) = true := decide_eq_true (by omega)
          have d1n : decide (0 < h) = true := decide_eq_true (by omega)
          have D : Hid (decide (h ≠ 0) = true) := decide_eq_true h0
          clear h0
          go_wp2_with fail
          go_meet
          case rel => exact ⟨rfl, by rw [D.out], rfl⟩
      case rest =>
      obtain ⟨rfl, rfl, hww⟩ := hcut
      subst hww
      obtain ⟨wr, hww⟩ : ∃ X, X = wc := ⟨_, rfl⟩
      subst hww
      go_upto_if 19 with fail
      go_cut [5, 14] from 14 to 55 (fun s5 s14 wc => s5 = .string (tx (p.m i).2.2) ∧ s14 = .int .i64 i ∧ Below wr.heap.size wr wc)
      case first =>
        by_cases h0 : h = 0
        · rw [decide_eq_false (fun e => e h0)]
          have E2 : Hid (tx (p.m i).2.2 = tx []) := by show _ = _; rw [Hm2.out, if_pos h0]
          clear h0
          go_wp2_with fail
          go_meet
          case rel => exact ⟨by rw [E2.out]; rfl, rfl, Below.refl _ _⟩
        · rw [decide_eq_true h0]
          have Hi1 := Lib.hid (fun W => dec_txN (h + i) ((h : Int) + (i : Int)) (by omega) (by omega) W)
          have Hn := Lib.hid (numbers_any h g h9 g9)
          have E2 : Hid (tx (p.m i).2.2 = tx (numT h g)) := by show _ = _; rw [Hm2.out, if_neg h0]; simp
          clear h0
          go_wp2_with fail
          refine (Hi1.out _).mono ?_
          rintro e w7 ⟨rfl, hb7⟩
          clear c0 c1 c2 c3 c4 c5
          obtain ⟨c0, c1, c2, c3, c4, c5, -⟩ := C6.keep hlt0 HC.out (bl6 hb7 hbel.out)
          go_wp2_with fail
          refine (Hn.out _).mono ?_
          rintro e w8 ⟨rfl, hb8⟩
          go_wp2_with fail
          go_meet
          case rel => exact ⟨by rw [E2.out], rfl, hb7.trans (hb8.mono hb7.size)⟩
      case rest =>
      obtain ⟨rfl, rfl, hbc⟩ := hcut
      have Hb5 : Hid (Below V.heap.size V wc) := bl6 hbc hbel.out
      have Hown5 := Lib.hid (own_below3 hown.out hbc)
      have Hi3 := Lib.hid (fun W => dec_txN (a + i) (IntKind.i64.wrap ((a : Int) + (i : Int))) (by rw [IntKind.wrap_i64]; omega) (by omega) W)
      have z1 : (tx (decDigits (a + i))).size ≤ 66000 := by rw [tx_size]; have := dec_len (a + i); omega
      have e47 : (⟨#[47]⟩ : ByteArray) = tx [47] := rfl
      have ha1 := add_tx (decDigits (a + i)) [47] (by have := dec_len (a + i); simp; omega)
      have ha2 := add_tx (decDigits (a + i) ++ [47]) p.proto (by have := dec_len (a + i); have := Hpl.out; simp; omega)
      rw [← e47] at ha1
      have HM1 : Hid (tx (p.m i).1 = tx (decDigits (a + i) ++ 47 :: p.proto)) := by
        show _ = _
        rw [Hm1.out i]
      have hin2 : (p.m i).2.1 = p.ip := rfl
      have Hin2 := Lib.hid hin2
      clear hbc hown hbel hin2 c0 c1 c2 c3 c4 c5 e47
      obtain ⟨c0, c1, c2, c3, c4, c5, HB3⟩ := C6.keep hlt0 HC.out Hb5.out
      obtain ⟨hst, hHst⟩ : ∃ x, x = tx (p.m i).2.2 := ⟨_, rfl⟩
      rw [← hHst]
      have Hst := Lib.hid hHst
      clear hHst
      have HX3 : Hid (Below wc.heap.size wc wc) := Below.refl _ _
      go_upto_region 10 with fail
      go_region_held3 (fun W => W.cell? ⟨w.heap.size, 0, none⟩ = some (.int .i64 a) ∧ W.cell? ⟨w.heap.size, 1, none⟩ = some (.int .i64 a) ∧ W.cell? ⟨w.heap.size, 2, none⟩ = some (.string (tx p.proto)) ∧ W.cell? ⟨w.heap.size, 3, none⟩ = some (.string (tx p.ip)) ∧ W.cell? ⟨w.heap.size, 4, none⟩ = some (.int .i64 h) ∧ W.cell? ⟨w.heap.size, 5, none⟩ = some (.int .i64 g) ∧ Below V.heap.size V W)
          (first | exact C6.keep hlt0 HC.out HB3 | exact C6.keep hlt0 HC.out HB3.drew | exact C6.keep hlt0 HC.out (HB3.alloc HB3.size _) | exact C6.keep hlt0 HC.out (HB3.alloc HB3.size _).drew | exact C6.keep hlt0 HC.out (HB3.drew.alloc HB3.drew.size _) | exact C6.keep hlt0 HC.out (HB3.drew.alloc HB3.drew.size _).drew)
          (first | (go_at_call 29; (with_reducible refine (Hi3.out _).mono ?_); rintro e w8 ⟨rfl, hb8⟩; have HB3 := (by first | exact bl6 hb8 HB3 | exact bl6 hb8 HB3.drew : Below V.heap.size V w8); have HX3 : Hid (Below wc.heap.size wc w8) := (by first | exact bl6 hb8 HX3.out | exact bl6 hb8 HX3.out.drew); obtain ⟨c0, c1, c2, c3, c4, c5, -⟩ := C6.keep hlt0 HC.out HB3) | ((refine step_append_lies _ (by rfl) _ _ _ (by rfl) V.heap.size 40 i0 (.agg #[.string ⟨#[]⟩, .string ⟨#[]⟩, .string ⟨#[]⟩]) 3 48 Tryz.underlying33 hi hz0 hz1 hz2 rfl (by decide) (.slice ao i cc) i (m3V (p.ms.take i)) (by rfl) (by first | exact own_below3 Hown5.out (HX3.out.alloc HX3.out.size _) | exact own_below3 Hown5.out (HX3.out.drew.alloc HX3.out.drew.size _)) ⟨_, 0, none⟩ 1 1 [.string (tx (decDigits (a + i) ++ 47 :: p.proto)), .string (tx p.ip), .string hst] (by rfl) rfl (cell_three_new _ _ _ _ _) (three_str _ _ _) (by decide) (by unfold maxLen; omega) (by omega) (by first | exact (HB3.alloc HB3.size _).size | exact (HB3.drew.alloc HB3.drew.size _).size) _ rfl ?_); intro gq cap w9 hown9 hgrow9 hat hltq; have HB3 : Below V.heap.size V w9 := (by first | exact (HB3.alloc HB3.size _).grown hgrow9 (by simp; have := HB3.size; omega) (own_block_ge3 Hown5.out) | exact (HB3.drew.alloc HB3.drew.size _).grown hgrow9 (by simp; have := HB3.size; omega) (own_block_ge3 Hown5.out)); obtain ⟨c0, c1, c2, c3, c4, c5, -⟩ := C6.keep hlt0 HC.out HB3))
      go_wp2_with fail
      go_roundg (gk - 1)
      case measure => have := hm.out; omega
      case rel =>
        have e1 := hm.out
        refine ⟨i + 1, by go_num, show _ = _ by omega, by omega, ?_, ?_⟩
        · show World.ownsRow _ _ _ _ _ _ _
          rw [HmsT.out i (by have := HN.out; omega), m3V_snoc, HM1.out, Hin2.out, ← Hst.out]
          exact hown9
        · first | exact HB3 | exact HB3.drew
    · obtain rfl : i = N := by omega
      have hlt : decide ((i : Int) < 1) = false := decide_eq_false (by have := HNi.out; omega)
      have hlt2 : decide ((i : Int) < ((a : Int) - (a : Int) + 1)) = false := decide_eq_false (by have := HNi.out; omega)
      have hlen : i = p.ms.length := by rw [HmsN.out]; exact HN.out.symm
      have Hfin : Hid (∃ gg c, Value.slice ao i cc = .slice (some ⟨gg, 0, none⟩) p.ms.length c ∧ V.heap.size ≤ gg ∧ M3At wr gg p.ms) := by
        have h := hown.out
        rw [hlen, List.take_length] at h
        obtain ⟨gg, c, e, hg, hm3⟩ := m3_of_own h rfl (by omega)
        exact ⟨gg, c, by rw [hlen]; exact e, hg, hm3⟩
      clear hown hlen
      go_wp2_with fail
      go_ret
      obtain ⟨gg, c, e, hg, hm3⟩ := Hfin.out
      exact ⟨gg, c, by rw [← e]; rfl, Nat.le_trans HV.out.size hg, hm3, HV.out.trans (hbel.out.mono HV.out.size)⟩

theorem maps_ok (p : Pub) (hp : p.Ok) (w : World) :
    Calls Tryz.prog 13 #[.agg #[.int .i64 p.a, .int .i64 p.b, .string (tx p.proto), .string (tx p.ip), .int .i64 p.h, .int .i64 p.g]] w fun e w' => ∃ gg c : Nat, e = .returned (.slice (some ⟨gg, 0, none⟩) p.ms.length c) ∧ w.heap.size ≤ gg ∧ M3At w' gg p.ms ∧ Below w.heap.size w w' := by
  by_cases hab : p.a = p.b
  · have h := maps_one p.a p.h p.g p rfl hab.symm rfl rfl hp w
    rw [← hab]; exact h
  · exact maps_many p.a p.b p.h p.g hab p rfl rfl rfl rfl hp w
end Go.Proofs.YtdmggcbbfljciaaGreatDoor
