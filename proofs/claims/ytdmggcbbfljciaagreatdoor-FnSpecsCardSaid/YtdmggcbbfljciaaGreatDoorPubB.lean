/- ParsePortSpec at a proper specification. -/
import Derived.Test.YtdmggcbbfljciaaGreatDoorSplitP
import Derived.Test.YtdmggcbbfljciaaGreatDoorPubA
import Derived.OwnWalk
import Derived.Deep.CutRange
namespace Go.Proofs.YtdmggcbbfljciaaGreatDoor
open Go.RowKit Go.Lib

theorem info67 : (Tryz.prog.info? 67).map (fun i => (i.zero, i.size, i.bytes)) = some (some (.agg #[.string ⟨#[]⟩, .string ⟨#[]⟩, .string ⟨#[]⟩]), 3, 48) := by kernel_rfl

theorem cell_three_new (w : World) (x y z : Value) (t : TypeId) : ∀ j u, [x, y, z][j]? = some u → (w.alloc (.cells #[x, y, z] t)).cell? ((⟨w.heap.size, 0, none⟩ : Addr).add j) = some u := by
  intro j u hj
  have h := heap_alloc_new w (.cells [x, y, z].toArray t)
  match j, hj with
  | 0, hj => simp at hj; subst hj; exact row_cell (l := [x, y, z]) h (j := 0) rfl
  | 1, hj => simp at hj; subst hj; exact row_cell (l := [x, y, z]) h (j := 1) rfl
  | 2, hj => simp at hj; subst hj; exact row_cell (l := [x, y, z]) h (j := 2) rfl

theorem three_str (x y z : ByteArray) : ∀ u ∈ [Value.string x, Value.string y, Value.string z], u.oneCell' = true := by
  intro u hu
  simp at hu
  rcases hu with rfl | rfl | rfl <;> rfl

theorem owns_shape3 {w : World} {B e sz : Nat} {v : Value} {n : Nat} {xs : List Value} (h : w.ownsRow B e sz v n xs) : ∃ ao cap, v = .slice ao n cap := by
  rcases h.2 with ⟨rfl, rfl⟩ | ⟨g, cap, cur, rfl, _⟩
  · exact ⟨none, 0, rfl⟩
  · exact ⟨some ⟨g, 0, none⟩, cap, rfl⟩

theorem own_block_ge3 {w : World} {B e sz n c : Nat} {ao : Option Addr} {xs : List Value} (h : w.ownsRow B e sz (.slice ao n c) n xs) : ∀ k, (Value.slice ao n c).ownBlock = some k → B ≤ k := by
  intro k hk
  rcases h.2 with ⟨he, _⟩ | ⟨g, cap, cur, he, hg, _⟩
  · simp only [Value.slice.injEq] at he; obtain ⟨rfl, _⟩ := he; simp [Value.ownBlock] at hk
  · simp only [Value.slice.injEq] at he; obtain ⟨rfl, _⟩ := he
    simp [Value.ownBlock] at hk; omega

theorem own_below3 {w w' : World} {B e n sz : Nat} {v : Value} {xs : List Value} (h : w.ownsRow B e sz v n xs) (hb : Below w.heap.size w w') : w'.ownsRow B e sz v n xs := by
  refine ⟨h.1, ?_⟩
  rcases h.2 with h' | ⟨g, cap, cur, h1, h2, h3, h4⟩
  · exact Or.inl h'
  · exact Or.inr ⟨g, cap, cur, h1, h2, (hb.block g (Array.getElem?_eq_some_iff.1 h3).1).trans h3, h4⟩

/-- an owned row of mappings holds them -/
theorem m3_of_own {w : World} {B e n : Nat} {v : Value} {l : List M3} (h : w.ownsRow B e 3 v n (m3V l)) (hn : n = l.length) (h0 : 0 < n) : ∃ g c, v = .slice (some ⟨g, 0, none⟩) n c ∧ B ≤ g ∧ M3At w g l := by
  rcases h.2 with ⟨_, h'⟩ | ⟨g, cap, cur, rfl, hg, hh, hr⟩
  · omega
  · refine ⟨g, cap, rfl, hg, fun j hj => ?_⟩
    obtain ⟨e0, e1, e2⟩ := m3V_at l j hj
    have hx := m3V_length l
    refine ⟨?_, ?_, ?_⟩
    · rw [h.cellAt (j * 3) (by omega), e0]
    · rw [h.cellAt (j * 3 + 1) (by omega), e1]
    · rw [h.cellAt (j * 3 + 2) (by omega), e2]

theorem itoa_tx (n : Nat) (N : Int) (hN : N = n) (hn : n ≤ 1000000000) (w : World) (hT : Tabs w) : Calls Tryz.prog 47 #[.int .i64 N] w fun e w' => e = .returned (.string (tx (decDigits n))) ∧ Below w.heap.size w w' := by
  refine (itoa_nat n N hN hn w hT).mono ?_
  rintro e w' ⟨r, rfl, hr, _, hb⟩
  exact ⟨by rw [tx_of hr.out], hb⟩

theorem Pub.host_ok {p : Pub} (hp : p.Ok) : p.h ≤ 65535 ∧ p.g ≤ 65535 ∧ p.h ≤ p.g := by
  rcases hp.host with ⟨h1, h2⟩ | ⟨h1, h2, h3, _⟩ <;> omega
end Go.Proofs.YtdmggcbbfljciaaGreatDoor

/- ParsePortSpec at a proper specification (one port, one host's). -/
namespace Go.Proofs.YtdmggcbbfljciaaGreatDoor
open Go.RowKit Go.Lib

set_option maxRecDepth 100000 in
set_option maxHeartbeats 16000000 in
theorem portSpec_one (a h : Nat) (p : Pub) (ea : p.a = a) (eb : p.b = a) (eh : p.h = h) (eg : p.g = h) (hp : p.Ok) (w : World) (hT : Tabs w)
    (hip : p.ip ≠ [] → ∀ W, Calls Tryz.prog 45 #[.string (tx p.ip)] W fun e w' => e = .returned (.bool true) ∧ Below W.heap.size W w')
    (hsh : sixL p.ip → ∀ W, Calls Tryz.prog 44 #[.string (tx (91 :: p.ip ++ [93]) ++ ⟨#[58]⟩)] W fun e w' => e = .returned (.tuple #[.string (tx p.ip), .string ⟨#[]⟩, .nilIface]) ∧ Below W.heap.size W w') :
    Calls Tryz.prog 26 #[.string (tx p.text)] w fun e w' => ∃ g c : Nat, e = .returned (.tuple #[.slice (some ⟨g, 0, none⟩) p.ms.length c, .nilIface]) ∧ w.heap.size ≤ g ∧ M3At w' g p.ms ∧ Below w.heap.size w w' := by
  obtain ⟨i0, hi, hz0, hz1, hz2⟩ := info_parts info67
  have Ht := Lib.hid hT
  have Hp := Lib.hid hp
  have b9 : a ≤ 65535 := by have h' := hp.b9; rw [eb] at h'; exact h'
  have ab : a ≤ a := by have h' := hp.ab; rw [ea, eb] at h'; exact h'
  have a9 : a ≤ 65535 := Nat.le_trans ab b9
  have n2 : a - a ≤ 200 := by have h' := hp.n; rw [ea, eb] at h'; exact h'
  have hg3 : h ≤ 65535 ∧ h ≤ 65535 ∧ h ≤ h := by have h' := Pub.host_ok hp; rw [eh, eg] at h'; exact h'
  obtain ⟨h9, g9, hg⟩ := hg3
  have Hhost : Hid ((h = 0 ∧ h = 0) ∨ (1 ≤ h ∧ h ≤ h ∧ h ≤ 65535 ∧ (h - h = a - a ∨ (a = a ∧ h - h ≤ 200)))) := by
    have h' := hp.host
    rw [ea, eb, eh, eg] at h'
    exact h'
  have Hhn : Hid (p.hostT = [] ↔ h = 0) := by
    have h' := p.host_nil
    rw [eh] at h'
    exact h'
  have Hht : Hid (h ≠ 0 → p.hostT = numT h h) := by
    intro hne0
    unfold Pub.hostT
    rw [eh, eg, if_neg hne0]
  have Hm2 : Hid (∀ i, (p.m i).2.2 = if h = 0 then [] else if a = a then numT h h else decDigits (h + i)) := by
    intro i
    show (if p.h = 0 then [] else if p.a = p.b then numT p.h p.g else decDigits (p.h + i)) = _
    rw [ea, eb, eh, eg]
  have Hm1 : Hid (∀ i, (p.m i).1 = decDigits (a + i) ++ 47 :: p.proto) := by
    intro i
    show decDigits (p.a + i) ++ 47 :: p.proto = _
    rw [ea]
  have HmsN : Hid (p.ms.length = a - a + 1) := by
    show _ = _
    rw [p.ms_len, ea, eb]
  have HmsT : Hid (∀ i, i < a - a + 1 → p.ms.take (i + 1) = p.ms.take i ++ [p.m i]) := by
    intro i hi'
    exact p.ms_take i (by rw [ea, eb]; exact hi')
  have Hip := Lib.hid hip
  have Hsh := Lib.hid hsh
  have zo : (tx p.outT).size ≤ 131080 := by rw [tx_size]; exact Pub.out_len hp
  have zp : (tx p.proto).size ≤ 4 := by rw [tx_size]; rcases hp.pr with h | h | h <;> rw [h] <;> decide
  have hpr0 : p.proto ≠ [] := by rcases hp.pr with h | h | h <;> rw [h] <;> decide
  have hns : (47 : UInt8) ∉ numT a a := by
    unfold numT
    split
    · exact no_slash _
    · intro e
      rcases List.mem_append.1 e with e | e
      · exact no_slash _ e
      · rcases List.mem_cons.1 e with e | e
        · cases e
        · exact no_slash _ e
  have Hs1 := Lib.hid (splitParts_pub p hp)
  have Hs2 := Lib.hid (splitProto (tx p.outT) (tx p.proto) (numT a a) (by show numT p.a p.b ++ 47 :: p.proto = _; rw [ea, eb]; rfl) hns (numT_ne' _ _) hpr0 (by omega))
  have Hs3 := Lib.hid (toLower_proto (tx p.proto) hp.pr)
  have Hs4 := Lib.hid (validateProto_ok (tx p.proto) hp.pr)
  have Hs5 := Lib.hid (portRange_any (tx (numT a a)) a a rfl ab b9)
  clear hT hp hip hsh hns hpr0 ea eb eh eg
  go_enter Tryz.func26, Tryz.ntmps26
  go_wp2_with fail
  refine (Hs1.out _).mono ?_
  rintro e w2 ⟨rfl, hb2⟩
  go_wp2_with fail
  refine (Hs2.out _).mono ?_
  rintro e w3 ⟨r, rfl, hr, hb3⟩
  obtain rfl : r = tx (numT a a) := tx_of hr.out
  have HB : Hid (Below w.heap.size w w3) := hb2.trans (hb3.mono hb2.size)
  have hne2 := str_some (tx (numT a a)) (numT_ne' _ _)
  clear hb2 hb3 hr
  go_wp2_with fail
  refine (Hs3.out _).mono ?_
  rintro e w4 ⟨rfl, hb4⟩
  go_wp2_with fail
  refine (Hs4.out _).mono ?_
  rintro e w5 ⟨rfl, hb5⟩
  have HB : Hid (Below w.heap.size w w5) := (HB.out.trans (hb4.mono HB.out.size)).trans (hb5.mono (Nat.le_trans HB.out.size hb4.size))
  clear hb4 hb5 hne2
  go_upto_region 9 with fail
  go_cut [48] from 42 to 48 (fun s48 wc => s48 = .bool (decide (sixL p.ip)) ∧ wc = w5)
  case first =>
    by_cases h0 : p.ip = []
    · have e1 : p.ipT = [] := by unfold Pub.ipT; rw [if_neg (by rw [h0]; decide), h0]
      have Hd : Hid (decide (sixL p.ip) = false) := decide_eq_false (by rw [h0]; decide)
      have hs := str_nil (tx p.ipT) e1
      clear h0 e1
      go_wp2_with fail
      go_meet
      case rel => exact ⟨by rw [Hd.out], rfl⟩
    · have hne0 : p.ipT ≠ [] := by
        unfold Pub.ipT
        split
        · simp
        · exact h0
      have hs := str_some (tx p.ipT) hne0
      have hs0 : 0 < (tx p.ipT).size := by rw [tx_size]; exact List.length_pos_iff.2 hne0
      have hb0 : ((tx p.ipT)[0]'hs0).toNat = (p.ipT.getD 0 0).toNat := byte_get (tx p.ipT) 0 hs0
      by_cases h6 : sixL p.ip
      · have Hd : Hid (decide (sixL p.ip) = true) := decide_eq_true h6
        have e2 : p.ipT.getD 0 0 = 91 := by unfold Pub.ipT; rw [if_pos h6]; rfl
        have hb1 : ((tx p.ipT)[0]'hs0).toNat = 91 := by rw [hb0, e2]; rfl
        have hb2 : ((((tx p.ipT)[0]'hs0).toNat : Int) == 91) = true := by rw [hb1]; rfl
        clear h0 h6 e2 hb0
        go_wp2_with fail
        go_meet
        case rel => exact ⟨by rw [Hd.out], rfl⟩
      · have Hd : Hid (decide (sixL p.ip) = false) := decide_eq_false h6
        have h4 : F4.Is p.ip := by
          rcases Hp.out.ip with e | e | e
          · exact absurd e h0
          · exact e
          · exact absurd e h6
        have e2 : (p.ipT.getD 0 0).toNat ≠ 91 := by
          have e3 : p.ipT = p.ip := by unfold Pub.ipT; rw [if_neg h6]
          rw [e3]
          have hl := List.length_pos_iff.2 h0
          rcases h4.byte 0 hl with e | e <;> omega
        have hb1 : ((((tx p.ipT)[0]'hs0).toNat : Int) == 91) = false := by simp; omega
        clear h0 h6 e2 h4 hb0
        go_wp2_with fail
        go_meet
        case rel => exact ⟨by rw [Hd.out], rfl⟩
  case rest =>
  obtain ⟨rfl, hww⟩ := hcut
  subst hww
  obtain ⟨W, hww⟩ : ∃ X, X = wc := ⟨_, rfl⟩
  subst hww
  go_upto_if 48 with fail
  go_cut [4] from 42 to 59 (fun s4 wc => s4 = .string (tx p.ip) ∧ Below W.heap.size W wc)
  case first =>
    by_cases h6 : sixL p.ip
    · have e1 : p.ipT = 91 :: p.ip ++ [93] := by unfold Pub.ipT; rw [if_pos h6]
      rw [decide_eq_true h6]
      have hz : (tx p.ipT).size ≤ 100 := by rw [e1, tx_size]; have := (six_no _ h6).2.2.2.2.2; simp; omega
      have H : Hid (∀ W, Calls Tryz.prog 44 #[.string (tx p.ipT ++ ⟨#[58]⟩)] W fun e w' => e = .returned (.tuple #[.string (tx p.ip), .string ⟨#[]⟩, .nilIface]) ∧ Below W.heap.size W w') := by
        show ∀ W, _
        rw [e1]; exact Hsh.out h6
      clear h6 e1
      go_wp2_with fail
      refine (H.out _).mono ?_
      rintro e w6 ⟨rfl, hb6⟩
      go_wp2_with fail
      go_meet
      case rel => exact ⟨rfl, hb6⟩
    · have e1 : p.ipT = p.ip := by unfold Pub.ipT; rw [if_neg h6]
      rw [decide_eq_false h6]
      have E1 := Lib.hid e1
      clear e1
      go_wp2_with fail
      go_meet
      case rel => exact ⟨by rw [E1.out], Below.refl _ _⟩
  case rest =>
  obtain ⟨rfl, hbc⟩ := hcut
  have HB : Hid (Below w.heap.size w wc) := HB.out.trans (hbc.mono HB.out.size)
  clear hbc
  obtain ⟨W2, hww⟩ : ∃ X, X = wc := ⟨_, rfl⟩
  subst hww
  go_upto_region 14 with fail
  go_cut [66] from 60 to 66 (fun s66 wc => s66 = .bool false ∧ Below W2.heap.size W2 wc)
  case first =>
    by_cases h0 : p.ip = []
    · have hs := str_nil (tx p.ip) h0
      clear h0
      go_wp2_with fail
      go_meet
      case rel => exact ⟨rfl, Below.refl _ _⟩
    · have hs := str_some (tx p.ip) h0
      have H := Lib.hid (Hip.out h0)
      clear h0
      go_wp2_with fail
      refine (H.out _).mono ?_
      rintro e w6 ⟨rfl, hb6⟩
      go_wp2_with fail
      go_meet
      case rel => exact ⟨rfl, hb6⟩
  case rest =>
  obtain ⟨rfl, hbc⟩ := hcut
  have HB : Hid (Below w.heap.size w wc) := HB.out.trans (hbc.mono HB.out.size)
  clear hbc
  go_wp2_with fail
  refine (Hs5.out _).mono ?_
  rintro e w6 ⟨rfl, hb6⟩
  have HB : Hid (Below w.heap.size w w6) := HB.out.trans (hb6.mono HB.out.size)
  clear hb6 Hs1 Hs2 Hs3 Hs4 Hs5 Hsh Hip
  go_upto_region 20 with fail
  go_cut [82] from 81 to 82 (fun s82 wc => s82 = .bool (decide (h ≠ 0)) ∧ wc = w6)
  case first =>
    by_cases h0 : h = 0
    · have hs := str_nil (tx p.hostT) (Hhn.out.2 h0)
      have D : Hid (decide (h ≠ 0) = false) := decide_eq_false (fun e => e h0)
      clear h0
      go_wp2_with fail
      go_meet
      case rel => exact ⟨by rw [D.out], rfl⟩
    · have hs := str_some (tx p.hostT) (fun e => h0 (Hhn.out.1 e))
      have D : Hid (decide (h ≠ 0) = true) := decide_eq_true h0
      clear h0
      go_wp2_with fail
      go_meet
      case rel => exact ⟨by rw [D.out], rfl⟩
  case rest =>
  obtain ⟨rfl, hww⟩ := hcut
  subst hww
  obtain ⟨W3, hww⟩ : ∃ X, X = wc := ⟨_, rfl⟩
  subst hww
  go_upto_if 82 with fail
  go_cut [14, 15, 16] from 81 to 104 (fun s14 s15 s16 wc => s15 = .int .i64 h ∧ s16 = .int .i64 h ∧ Below W3.heap.size W3 wc)
  case first =>
    rcases Hhost.out with ⟨h0, h1⟩ | ⟨h0, h1, h2, h3⟩
    · have H0 := Lib.hid h0
      have H1 := Lib.hid h1
      rw [decide_eq_false (fun e => e h0)]
      clear h0 h1
      go_wp2_with fail
      go_meet
      case rel => exact ⟨by rw [H0.out]; rfl, by rw [H1.out]; rfl, Below.refl _ _⟩
    · have hne3 : h ≠ 0 := by omega
      rw [decide_eq_true hne3]
      have H := Lib.hid (portRange_any (tx p.hostT) h h (Hht.out hne3) h1 h2)
      clear h3 hne3 h0
      go_wp2_with fail
      refine (H.out _).mono ?_
      rintro e w7 ⟨rfl, hb7⟩
      go_wp2_with fail
      go_meet
      case rel => exact ⟨rfl, rfl, hb7⟩
  case rest =>
  obtain ⟨rfl, rfl, hbc⟩ := hcut
  have HB : Hid (Below w.heap.size w wc) := HB.out.trans (hbc.mono HB.out.size)
  clear hbc
  obtain ⟨W4, hww⟩ : ∃ X, X = wc := ⟨_, rfl⟩
  subst hww
  obtain ⟨N, HN, hN1, hN0, hNi⟩ : ∃ N, Hid (N = a - a + 1) ∧ N ≤ 201 ∧ 1 ≤ N ∧ 1 = (N : Int) := ⟨a - a + 1, rfl, by omega, by omega, by omega⟩
  have HNi := Lib.hid hNi
  clear hNi
  go_wp2_with (at_make; refine wpList_make_own _ rfl _ _ 58 rfl W4.heap.size 67 i0 (.agg #[.string ⟨#[]⟩, .string ⟨#[]⟩, .string ⟨#[]⟩]) 3 Tryz.underlying58 hi hz0 hz1 .i64 .i64 _ N rfl rfl (by first | exact HNi.out | (have := HNi.out; omega)) (by rw [hz2]; omega) (by unfold maxLen; omega) (Nat.le_refl _) ?_; intro w0 hown0 hgrow0)
  have Hown0 := Lib.hid hown0
  have Hb0 : Hid (Below W4.heap.size W4 w0) := (Below.refl _ _).grown hgrow0 (Nat.le_refl _) (fun j hj => by cases hj)
  clear hown0 hgrow0
  go_loopg [18, 112] (N + 1) (fun m sv iv wr => ∃ i : Nat, iv = .int .i64 i ∧ Hid (m + i = N + 1) ∧ i ≤ N ∧ Hid (wr.ownsRow W4.heap.size 67 3 sv i (m3V (p.ms.take i))) ∧ Hid (Below W4.heap.size W4 wr))
  case atStart => exact ⟨0, rfl, rfl, Nat.zero_le _, Hown0.out, Hb0.out⟩
  case round =>
    obtain ⟨i, rfl, hm, hiN, hown, hbel⟩ := hrel
    obtain ⟨ao, cc, rfl⟩ := owns_shape3 hown.out
    have HB4 : Hid (Below w.heap.size w wr) := HB.out.trans (hbel.out.mono HB.out.size)
    by_cases hin : i < N
    · have hlt : decide ((i : Int) < 1) = true := decide_eq_true (by have := HNi.out; omega)
      have hi00 : i = 0 := by have := HN.out; omega
      have hltn : decide (i < 1) = true := decide_eq_true (by omega)
      have Hi00 := Lib.hid hi00
      clear hi00
      go_upto_region 33 with fail
      go_cut [112, 116] from 112 to 147 (fun s112 s116 wc => s112 = .int .i64 i ∧ s116 = .bool (decide (h ≠ 0)) ∧ wc = wr)
      case first =>
        by_cases h0 : h = 0
        · have hs := str_nil (tx p.hostT) (Hhn.out.2 h0)
          have D : Hid (decide (h ≠ 0) = false) := decide_eq_false (fun e => e h0)
          clear h0
          go_wp2_with fail
          go_meet
          case rel => exact ⟨rfl, by rw [D.out], rfl⟩
        · have hs := str_some (tx p.hostT) (fun e => h0 (Hhn.out.1 e))
          have D : Hid (decide (h ≠ 0) = true) := decide_eq_true h0
          clear h0
          go_wp2_with fail
          go_meet
          case rel => exact ⟨rfl, by rw [D.out], rfl⟩
      case rest =>
      obtain ⟨rfl, rfl, hww⟩ := hcut
      subst hww
      obtain ⟨wr, hww⟩ : ∃ X, X = wc := ⟨_, rfl⟩
      subst hww
      go_upto_if 116 with fail
      go_cut [20, 112] from 112 to 147 (fun s20 s112 wc => s20 = .string (tx (p.m i).2.2) ∧ s112 = .int .i64 i ∧ Below wr.heap.size wr wc)
      case first =>
        by_cases h0 : h = 0
        · rw [decide_eq_false (fun e => e h0)]
          have E2 : Hid (tx (p.m i).2.2 = tx []) := by show _ = _; rw [Hm2.out, if_pos h0]
          clear h0
          go_wp2_with fail
          go_meet
          case rel => exact ⟨by rw [E2.out]; rfl, rfl, Below.refl _ _⟩
        · rw [decide_eq_true h0]
          have Hi1 := Lib.hid (fun W hT => itoa_tx (h + i) ((h : Int) + (i : Int)) (by omega) (by omega) W hT)
          have z1 : (tx (decDigits (h + i))).size ≤ 66000 := by rw [tx_size]; have := dec_len (h + i); omega
          have z2 : (tx (decDigits h)).size ≤ 66000 := by rw [tx_size]; have := dec_len h; omega
          have E2 : Hid (tx (p.m i).2.2 = tx (decDigits (h + i))) := by
            show _ = _
            rw [Hm2.out, if_neg h0, if_pos True.intro, numT, if_pos rfl, Hi00.out, Nat.add_zero]
          clear h0
          go_wp2_with fail
          refine (Hi1.out _ (Ht.out.below HB4.out)).mono ?_
          rintro e w7 ⟨rfl, hb7⟩
          go_wp2_with fail
          go_meet
          case rel => exact ⟨by rw [E2.out], rfl, hb7⟩
      case rest =>
      obtain ⟨rfl, rfl, hbc⟩ := hcut
      have HB5 : Hid (Below w.heap.size w wc) := HB4.out.trans (hbc.mono HB4.out.size)
      have Hb5 : Hid (Below W4.heap.size W4 wc) := hbel.out.trans (hbc.mono hbel.out.size)
      have Hown5 := Lib.hid (own_below3 hown.out hbc)
      have Hi3 := Lib.hid (fun W hT => itoa_tx (a + i) ((a : Int) + (i : Int)) (by omega) (by omega) W hT)
      have z1 : (tx (decDigits (a + i))).size ≤ 66000 := by rw [tx_size]; have := dec_len (a + i); omega
      have HM1 : Hid (tx (p.m i).1 = tx (decDigits (a + i)) ++ ⟨#[47]⟩ ++ tx p.proto) := by
        show _ = _
        rw [Hm1.out i]
        exact (tx_of (by rw [app_bytes, app_bytes, tx_list, tx_list]; simp)).symm
      have hin2 : (p.m i).2.1 = p.ip := rfl
      have Hin2 := Lib.hid hin2
      clear hbc hown hbel hin2
      obtain ⟨hst, hHst⟩ : ∃ x, x = tx (p.m i).2.2 := ⟨_, rfl⟩
      rw [← hHst]
      have Hst := Lib.hid hHst
      clear hHst
      go_wp2_with fail
      refine (Hi3.out _ (Ht.out.below HB5.out)).mono ?_
      rintro e w8 ⟨rfl, hb8⟩
      have HB8 : Hid (Below W4.heap.size W4 w8) := Hb5.out.trans (hb8.mono Hb5.out.size)
      have hown8 := own_below3 Hown5.out hb8
      have hs8 := HB8.out.size
      clear hb8
      go_wp2_with (at_builtin; refine wpList_append_own _ rfl (.tmp 133) (.tmp 145) 58 rfl W4.heap.size 67 i0 (.agg #[.string ⟨#[]⟩, .string ⟨#[]⟩, .string ⟨#[]⟩]) 3 48 Tryz.underlying58 hi hz0 hz1 hz2 rfl (by decide) _ _ _ rfl (hown8.alloc _) ⟨w8.heap.size, 0, none⟩ 1 1 [.string (tx (decDigits (a + i)) ++ ⟨#[47]⟩ ++ tx p.proto), .string (tx p.ip), .string hst] rfl rfl (cell_three_new _ _ _ _ _) (three_str _ _ _) (by unfold maxLen; omega) (by omega) (by simp; omega) ?_; intro v' w9 hown9 hgrow9 _)
      go_roundg (gk - 1)
      case measure => have := hm.out; omega
      case rel =>
        have e1 := hm.out
        refine ⟨i + 1, by go_num, show _ = _ by omega, by omega, ?_, ?_⟩
        · show World.ownsRow _ _ _ _ _ _ _
          rw [HmsT.out i (by have := HN.out; omega), m3V_snoc, HM1.out, Hin2.out, ← Hst.out]
          exact hown9
        · exact (HB8.out.alloc hs8 _).grown hgrow9 (by simp; omega) (own_block_ge3 hown8)
    · obtain rfl : i = N := by omega
      have hlt : decide ((i : Int) < 1) = false := decide_eq_false (by have := HNi.out; omega)
      have hltn : decide (i < 1) = false := decide_eq_false (by have := HN.out; omega)
      have hlen : i = p.ms.length := by rw [HmsN.out]; exact HN.out
      have Hfin : Hid (∃ g c, Value.slice ao i cc = .slice (some ⟨g, 0, none⟩) p.ms.length c ∧ W4.heap.size ≤ g ∧ M3At wr g p.ms) := by
        have h := hown.out
        rw [hlen, List.take_length] at h
        obtain ⟨g, c, e, hg, hm3⟩ := m3_of_own h rfl (by omega)
        exact ⟨g, c, by rw [hlen]; exact e, hg, hm3⟩
      have HWs : Hid (w.heap.size ≤ W4.heap.size) := HB.out.size
      clear hown hlen
      go_wp2_with fail
      go_ret2
      obtain ⟨g, c, e, hg, hm3⟩ := Hfin.out
      exact ⟨g, c, by rw [← e]; rfl, Nat.le_trans HWs.out hg, hm3, HB4.out⟩
end Go.Proofs.YtdmggcbbfljciaaGreatDoor

/- ParsePortSpec at a proper specification (one port, more of the host's). -/
namespace Go.Proofs.YtdmggcbbfljciaaGreatDoor
open Go.RowKit Go.Lib

set_option maxRecDepth 100000 in
set_option maxHeartbeats 16000000 in
theorem portSpec_two (a h g : Nat) (hne : h ≠ g) (p : Pub) (ea : p.a = a) (eb : p.b = a) (eh : p.h = h) (eg : p.g = g) (hp : p.Ok) (w : World) (hT : Tabs w)
    (hip : p.ip ≠ [] → ∀ W, Calls Tryz.prog 45 #[.string (tx p.ip)] W fun e w' => e = .returned (.bool true) ∧ Below W.heap.size W w')
    (hsh : sixL p.ip → ∀ W, Calls Tryz.prog 44 #[.string (tx (91 :: p.ip ++ [93]) ++ ⟨#[58]⟩)] W fun e w' => e = .returned (.tuple #[.string (tx p.ip), .string ⟨#[]⟩, .nilIface]) ∧ Below W.heap.size W w') :
    Calls Tryz.prog 26 #[.string (tx p.text)] w fun e w' => ∃ g c : Nat, e = .returned (.tuple #[.slice (some ⟨g, 0, none⟩) p.ms.length c, .nilIface]) ∧ w.heap.size ≤ g ∧ M3At w' g p.ms ∧ Below w.heap.size w w' := by
  obtain ⟨i0, hi, hz0, hz1, hz2⟩ := info_parts info67
  have Ht := Lib.hid hT
  have Hp := Lib.hid hp
  have b9 : a ≤ 65535 := by have h' := hp.b9; rw [eb] at h'; exact h'
  have ab : a ≤ a := by have h' := hp.ab; rw [ea, eb] at h'; exact h'
  have a9 : a ≤ 65535 := Nat.le_trans ab b9
  have n2 : a - a ≤ 200 := by have h' := hp.n; rw [ea, eb] at h'; exact h'
  have hg3 : h ≤ 65535 ∧ g ≤ 65535 ∧ h ≤ g := by have h' := Pub.host_ok hp; rw [eh, eg] at h'; exact h'
  obtain ⟨h9, g9, hg⟩ := hg3
  have Hhost : Hid ((h = 0 ∧ g = 0) ∨ (1 ≤ h ∧ h ≤ g ∧ g ≤ 65535 ∧ (g - h = a - a ∨ (a = a ∧ g - h ≤ 200)))) := by
    have h' := hp.host
    rw [ea, eb, eh, eg] at h'
    exact h'
  have Hhn : Hid (p.hostT = [] ↔ h = 0) := by
    have h' := p.host_nil
    rw [eh] at h'
    exact h'
  have Hht : Hid (h ≠ 0 → p.hostT = numT h g) := by
    intro hne0
    unfold Pub.hostT
    rw [eh, eg, if_neg hne0]
  have Hm2 : Hid (∀ i, (p.m i).2.2 = if h = 0 then [] else if a = a then numT h g else decDigits (h + i)) := by
    intro i
    show (if p.h = 0 then [] else if p.a = p.b then numT p.h p.g else decDigits (p.h + i)) = _
    rw [ea, eb, eh, eg]
  have Hm1 : Hid (∀ i, (p.m i).1 = decDigits (a + i) ++ 47 :: p.proto) := by
    intro i
    show decDigits (p.a + i) ++ 47 :: p.proto = _
    rw [ea]
  have HmsN : Hid (p.ms.length = a - a + 1) := by
    show _ = _
    rw [p.ms_len, ea, eb]
  have HmsT : Hid (∀ i, i < a - a + 1 → p.ms.take (i + 1) = p.ms.take i ++ [p.m i]) := by
    intro i hi'
    exact p.ms_take i (by rw [ea, eb]; exact hi')
  have Hip := Lib.hid hip
  have Hsh := Lib.hid hsh
  have zo : (tx p.outT).size ≤ 131080 := by rw [tx_size]; exact Pub.out_len hp
  have zp : (tx p.proto).size ≤ 4 := by rw [tx_size]; rcases hp.pr with h | h | h <;> rw [h] <;> decide
  have hpr0 : p.proto ≠ [] := by rcases hp.pr with h | h | h <;> rw [h] <;> decide
  have hns : (47 : UInt8) ∉ numT a a := by
    unfold numT
    split
    · exact no_slash _
    · intro e
      rcases List.mem_append.1 e with e | e
      · exact no_slash _ e
      · rcases List.mem_cons.1 e with e | e
        · cases e
        · exact no_slash _ e
  have Hs1 := Lib.hid (splitParts_pub p hp)
  have Hs2 := Lib.hid (splitProto (tx p.outT) (tx p.proto) (numT a a) (by show numT p.a p.b ++ 47 :: p.proto = _; rw [ea, eb]; rfl) hns (numT_ne' _ _) hpr0 (by omega))
  have Hs3 := Lib.hid (toLower_proto (tx p.proto) hp.pr)
  have Hs4 := Lib.hid (validateProto_ok (tx p.proto) hp.pr)
  have Hs5 := Lib.hid (portRange_any (tx (numT a a)) a a rfl ab b9)
  clear hT hp hip hsh hns hpr0 ea eb eh eg
  go_enter Tryz.func26, Tryz.ntmps26
  go_wp2_with fail
  refine (Hs1.out _).mono ?_
  rintro e w2 ⟨rfl, hb2⟩
  go_wp2_with fail
  refine (Hs2.out _).mono ?_
  rintro e w3 ⟨r, rfl, hr, hb3⟩
  obtain rfl : r = tx (numT a a) := tx_of hr.out
  have HB : Hid (Below w.heap.size w w3) := hb2.trans (hb3.mono hb2.size)
  have hne2 := str_some (tx (numT a a)) (numT_ne' _ _)
  clear hb2 hb3 hr
  go_wp2_with fail
  refine (Hs3.out _).mono ?_
  rintro e w4 ⟨rfl, hb4⟩
  go_wp2_with fail
  refine (Hs4.out _).mono ?_
  rintro e w5 ⟨rfl, hb5⟩
  have HB : Hid (Below w.heap.size w w5) := (HB.out.trans (hb4.mono HB.out.size)).trans (hb5.mono (Nat.le_trans HB.out.size hb4.size))
  clear hb4 hb5 hne2
  go_upto_region 9 with fail
  go_cut [48] from 42 to 48 (fun s48 wc => s48 = .bool (decide (sixL p.ip)) ∧ wc = w5)
  case first =>
    by_cases h0 : p.ip = []
    · have e1 : p.ipT = [] := by unfold Pub.ipT; rw [if_neg (by rw [h0]; decide), h0]
      have Hd : Hid (decide (sixL p.ip) = false) := decide_eq_false (by rw [h0]; decide)
      have hs := str_nil (tx p.ipT) e1
      clear h0 e1
      go_wp2_with fail
      go_meet
      case rel => exact ⟨by rw [Hd.out], rfl⟩
    · have hne0 : p.ipT ≠ [] := by
        unfold Pub.ipT
        split
        · simp
        · exact h0
      have hs := str_some (tx p.ipT) hne0
      have hs0 : 0 < (tx p.ipT).size := by rw [tx_size]; exact List.length_pos_iff.2 hne0
      have hb0 : ((tx p.ipT)[0]'hs0).toNat = (p.ipT.getD 0 0).toNat := byte_get (tx p.ipT) 0 hs0
      by_cases h6 : sixL p.ip
      · have Hd : Hid (decide (sixL p.ip) = true) := decide_eq_true h6
        have e2 : p.ipT.getD 0 0 = 91 := by unfold Pub.ipT; rw [if_pos h6]; rfl
        have hb1 : ((tx p.ipT)[0]'hs0).toNat = 91 := by rw [hb0, e2]; rfl
        have hb2 : ((((tx p.ipT)[0]'hs0).toNat : Int) == 91) = true := by rw [hb1]; rfl
        clear h0 h6 e2 hb0
        go_wp2_with fail
        go_meet
        case rel => exact ⟨by rw [Hd.out], rfl⟩
      · have Hd : Hid (decide (sixL p.ip) = false) := decide_eq_false h6
        have h4 : F4.Is p.ip := by
          rcases Hp.out.ip with e | e | e
          · exact absurd e h0
          · exact e
          · exact absurd e h6
        have e2 : (p.ipT.getD 0 0).toNat ≠ 91 := by
          have e3 : p.ipT = p.ip := by unfold Pub.ipT; rw [if_neg h6]
          rw [e3]
          have hl := List.length_pos_iff.2 h0
          rcases h4.byte 0 hl with e | e <;> omega
        have hb1 : ((((tx p.ipT)[0]'hs0).toNat : Int) == 91) = false := by simp; omega
        clear h0 h6 e2 h4 hb0
        go_wp2_with fail
        go_meet
        case rel => exact ⟨by rw [Hd.out], rfl⟩
  case rest =>
  obtain ⟨rfl, hww⟩ := hcut
  subst hww
  obtain ⟨W, hww⟩ : ∃ X, X = wc := ⟨_, rfl⟩
  subst hww
  go_upto_if 48 with fail
  go_cut [4] from 42 to 59 (fun s4 wc => s4 = .string (tx p.ip) ∧ Below W.heap.size W wc)
  case first =>
    by_cases h6 : sixL p.ip
    · have e1 : p.ipT = 91 :: p.ip ++ [93] := by unfold Pub.ipT; rw [if_pos h6]
      rw [decide_eq_true h6]
      have hz : (tx p.ipT).size ≤ 100 := by rw [e1, tx_size]; have := (six_no _ h6).2.2.2.2.2; simp; omega
      have H : Hid (∀ W, Calls Tryz.prog 44 #[.string (tx p.ipT ++ ⟨#[58]⟩)] W fun e w' => e = .returned (.tuple #[.string (tx p.ip), .string ⟨#[]⟩, .nilIface]) ∧ Below W.heap.size W w') := by
        show ∀ W, _
        rw [e1]; exact Hsh.out h6
      clear h6 e1
      go_wp2_with fail
      refine (H.out _).mono ?_
      rintro e w6 ⟨rfl, hb6⟩
      go_wp2_with fail
      go_meet
      case rel => exact ⟨rfl, hb6⟩
    · have e1 : p.ipT = p.ip := by unfold Pub.ipT; rw [if_neg h6]
      rw [decide_eq_false h6]
      have E1 := Lib.hid e1
      clear e1
      go_wp2_with fail
      go_meet
      case rel => exact ⟨by rw [E1.out], Below.refl _ _⟩
  case rest =>
  obtain ⟨rfl, hbc⟩ := hcut
  have HB : Hid (Below w.heap.size w wc) := HB.out.trans (hbc.mono HB.out.size)
  clear hbc
  obtain ⟨W2, hww⟩ : ∃ X, X = wc := ⟨_, rfl⟩
  subst hww
  go_upto_region 14 with fail
  go_cut [66] from 60 to 66 (fun s66 wc => s66 = .bool false ∧ Below W2.heap.size W2 wc)
  case first =>
    by_cases h0 : p.ip = []
    · have hs := str_nil (tx p.ip) h0
      clear h0
      go_wp2_with fail
      go_meet
      case rel => exact ⟨rfl, Below.refl _ _⟩
    · have hs := str_some (tx p.ip) h0
      have H := Lib.hid (Hip.out h0)
      clear h0
      go_wp2_with fail
      refine (H.out _).mono ?_
      rintro e w6 ⟨rfl, hb6⟩
      go_wp2_with fail
      go_meet
      case rel => exact ⟨rfl, hb6⟩
  case rest =>
  obtain ⟨rfl, hbc⟩ := hcut
  have HB : Hid (Below w.heap.size w wc) := HB.out.trans (hbc.mono HB.out.size)
  clear hbc
  go_wp2_with fail
  refine (Hs5.out _).mono ?_
  rintro e w6 ⟨rfl, hb6⟩
  have HB : Hid (Below w.heap.size w w6) := HB.out.trans (hb6.mono HB.out.size)
  clear hb6 Hs1 Hs2 Hs3 Hs4 Hs5 Hsh Hip
  go_upto_region 20 with fail
  go_cut [82] from 81 to 82 (fun s82 wc => s82 = .bool (decide (h ≠ 0)) ∧ wc = w6)
  case first =>
    by_cases h0 : h = 0
    · have hs := str_nil (tx p.hostT) (Hhn.out.2 h0)
      have D : Hid (decide (h ≠ 0) = false) := decide_eq_false (fun e => e h0)
      clear h0
      go_wp2_with fail
      go_meet
      case rel => exact ⟨by rw [D.out], rfl⟩
    · have hs := str_some (tx p.hostT) (fun e => h0 (Hhn.out.1 e))
      have D : Hid (decide (h ≠ 0) = true) := decide_eq_true h0
      clear h0
      go_wp2_with fail
      go_meet
      case rel => exact ⟨by rw [D.out], rfl⟩
  case rest =>
  obtain ⟨rfl, hww⟩ := hcut
  subst hww
  obtain ⟨W3, hww⟩ : ∃ X, X = wc := ⟨_, rfl⟩
  subst hww
  go_upto_if 82 with fail
  go_cut [14, 15, 16] from 81 to 104 (fun s14 s15 s16 wc => s15 = .int .i64 h ∧ s16 = .int .i64 g ∧ Below W3.heap.size W3 wc)
  case first =>
    rcases Hhost.out with ⟨h0, h1⟩ | ⟨h0, h1, h2, h3⟩
    · have H0 := Lib.hid h0
      have H1 := Lib.hid h1
      rw [decide_eq_false (fun e => e h0)]
      clear h0 h1
      go_wp2_with fail
      go_meet
      case rel => exact ⟨by rw [H0.out]; rfl, by rw [H1.out]; rfl, Below.refl _ _⟩
    · have hne3 : h ≠ 0 := by omega
      rw [decide_eq_true hne3]
      have H := Lib.hid (portRange_any (tx p.hostT) h g (Hht.out hne3) h1 h2)
      have d1 : ((0 : Int) != ((g : Int) - (h : Int))) = true := by simp; omega
      clear h3 hne3 h0
      go_wp2_with fail
      refine (H.out _).mono ?_
      rintro e w7 ⟨rfl, hb7⟩
      go_wp2_with fail
      go_meet
      case rel => exact ⟨rfl, rfl, hb7⟩
  case rest =>
  obtain ⟨rfl, rfl, hbc⟩ := hcut
  have HB : Hid (Below w.heap.size w wc) := HB.out.trans (hbc.mono HB.out.size)
  clear hbc
  obtain ⟨W4, hww⟩ : ∃ X, X = wc := ⟨_, rfl⟩
  subst hww
  obtain ⟨N, HN, hN1, hN0, hNi⟩ : ∃ N, Hid (N = a - a + 1) ∧ N ≤ 201 ∧ 1 ≤ N ∧ 1 = (N : Int) := ⟨a - a + 1, rfl, by omega, by omega, by omega⟩
  have HNi := Lib.hid hNi
  clear hNi
  go_wp2_with (at_make; refine wpList_make_own _ rfl _ _ 58 rfl W4.heap.size 67 i0 (.agg #[.string ⟨#[]⟩, .string ⟨#[]⟩, .string ⟨#[]⟩]) 3 Tryz.underlying58 hi hz0 hz1 .i64 .i64 _ N rfl rfl (by first | exact HNi.out | (have := HNi.out; omega)) (by rw [hz2]; omega) (by unfold maxLen; omega) (Nat.le_refl _) ?_; intro w0 hown0 hgrow0)
  have Hown0 := Lib.hid hown0
  have Hb0 : Hid (Below W4.heap.size W4 w0) := (Below.refl _ _).grown hgrow0 (Nat.le_refl _) (fun j hj => by cases hj)
  clear hown0 hgrow0
  go_loopg [18, 112] (N + 1) (fun m sv iv wr => ∃ i : Nat, iv = .int .i64 i ∧ Hid (m + i = N + 1) ∧ i ≤ N ∧ Hid (wr.ownsRow W4.heap.size 67 3 sv i (m3V (p.ms.take i))) ∧ Hid (Below W4.heap.size W4 wr))
  case atStart => exact ⟨0, rfl, rfl, Nat.zero_le _, Hown0.out, Hb0.out⟩
  case round =>
    obtain ⟨i, rfl, hm, hiN, hown, hbel⟩ := hrel
    obtain ⟨ao, cc, rfl⟩ := owns_shape3 hown.out
    have HB4 : Hid (Below w.heap.size w wr) := HB.out.trans (hbel.out.mono HB.out.size)
    by_cases hin : i < N
    · have hlt : decide ((i : Int) < 1) = true := decide_eq_true (by have := HNi.out; omega)
      have hi00 : i = 0 := by have := HN.out; omega
      have hltn : decide (i < 1) = true := decide_eq_true (by omega)
      have Hi00 := Lib.hid hi00
      clear hi00
      go_upto_region 33 with fail
      go_cut [112, 116] from 112 to 147 (fun s112 s116 wc => s112 = .int .i64 i ∧ s116 = .bool (decide (h ≠ 0)) ∧ wc = wr)
      case first =>
        by_cases h0 : h = 0
        · have hs := str_nil (tx p.hostT) (Hhn.out.2 h0)
          have D : Hid (decide (h ≠ 0) = false) := decide_eq_false (fun e => e h0)
          clear h0
          go_wp2_with fail
          go_meet
          case rel => exact ⟨rfl, by rw [D.out], rfl⟩
        · have hs := str_some (tx p.hostT) (fun e => h0 (Hhn.out.1 e))
          have D : Hid (decide (h ≠ 0) = true) := decide_eq_true h0
          clear h0
          go_wp2_with fail
          go_meet
          case rel => exact ⟨rfl, by rw [D.out], rfl⟩
      case rest =>
      obtain ⟨rfl, rfl, hww⟩ := hcut
      subst hww
      obtain ⟨wr, hww⟩ : ∃ X, X = wc := ⟨_, rfl⟩
      subst hww
      go_upto_if 116 with fail
      go_cut [20, 112] from 112 to 147 (fun s20 s112 wc => s20 = .string (tx (p.m i).2.2) ∧ s112 = .int .i64 i ∧ Below wr.heap.size wr wc)
      case first =>
        by_cases h0 : h = 0
        · rw [decide_eq_false (fun e => e h0)]
          have E2 : Hid (tx (p.m i).2.2 = tx []) := by show _ = _; rw [Hm2.out, if_pos h0]
          clear h0
          go_wp2_with fail
          go_meet
          case rel => exact ⟨by rw [E2.out]; rfl, rfl, Below.refl _ _⟩
        · rw [decide_eq_true h0]
          have Hi1 := Lib.hid (fun W hT => itoa_tx (h + i) ((h : Int) + (i : Int)) (by omega) (by omega) W hT)
          have z1 : (tx (decDigits (h + i))).size ≤ 66000 := by rw [tx_size]; have := dec_len (h + i); omega
          have z2 : (tx (decDigits g)).size ≤ 66000 := by rw [tx_size]; have := dec_len g; omega
          have E2 : Hid (tx (p.m i).2.2 = tx (decDigits (h + i)) ++ (⟨#[45]⟩ ++ tx (decDigits g))) := by
            show _ = _
            rw [Hm2.out, if_neg h0, if_pos True.intro, numT, if_neg hne, Hi00.out, Nat.add_zero]
            exact (tx_of (by rw [app_bytes, app_bytes, tx_list, tx_list]; rfl)).symm
          have d2 : ((h : Int) != (g : Int)) = true := by simp; omega
          have Hi2 := Lib.hid (fun W hT => itoa_tx g (g : Int) rfl (by omega) W hT)
          clear h0
          go_wp2_with fail
          refine (Hi1.out _ (Ht.out.below HB4.out)).mono ?_
          rintro e w7 ⟨rfl, hb7⟩
          have HB7 : Hid (Below w.heap.size w w7) := HB4.out.trans (hb7.mono HB4.out.size)
          go_wp2_with fail
          refine (Hi2.out _ (Ht.out.below HB7.out)).mono ?_
          rintro e w8 ⟨rfl, hb8⟩
          go_wp2_with fail
          go_meet
          case rel => exact ⟨by rw [E2.out], rfl, hb7.trans (hb8.mono hb7.size)⟩
      case rest =>
      obtain ⟨rfl, rfl, hbc⟩ := hcut
      have HB5 : Hid (Below w.heap.size w wc) := HB4.out.trans (hbc.mono HB4.out.size)
      have Hb5 : Hid (Below W4.heap.size W4 wc) := hbel.out.trans (hbc.mono hbel.out.size)
      have Hown5 := Lib.hid (own_below3 hown.out hbc)
      have Hi3 := Lib.hid (fun W hT => itoa_tx (a + i) ((a : Int) + (i : Int)) (by omega) (by omega) W hT)
      have z1 : (tx (decDigits (a + i))).size ≤ 66000 := by rw [tx_size]; have := dec_len (a + i); omega
      have HM1 : Hid (tx (p.m i).1 = tx (decDigits (a + i)) ++ ⟨#[47]⟩ ++ tx p.proto) := by
        show _ = _
        rw [Hm1.out i]
        exact (tx_of (by rw [app_bytes, app_bytes, tx_list, tx_list]; simp)).symm
      have hin2 : (p.m i).2.1 = p.ip := rfl
      have Hin2 := Lib.hid hin2
      clear hbc hown hbel hin2
      obtain ⟨hst, hHst⟩ : ∃ x, x = tx (p.m i).2.2 := ⟨_, rfl⟩
      rw [← hHst]
      have Hst := Lib.hid hHst
      clear hHst
      go_wp2_with fail
      refine (Hi3.out _ (Ht.out.below HB5.out)).mono ?_
      rintro e w8 ⟨rfl, hb8⟩
      have HB8 : Hid (Below W4.heap.size W4 w8) := Hb5.out.trans (hb8.mono Hb5.out.size)
      have hown8 := own_below3 Hown5.out hb8
      have hs8 := HB8.out.size
      clear hb8
      go_wp2_with (at_builtin; refine wpList_append_own _ rfl (.tmp 133) (.tmp 145) 58 rfl W4.heap.size 67 i0 (.agg #[.string ⟨#[]⟩, .string ⟨#[]⟩, .string ⟨#[]⟩]) 3 48 Tryz.underlying58 hi hz0 hz1 hz2 rfl (by decide) _ _ _ rfl (hown8.alloc _) ⟨w8.heap.size, 0, none⟩ 1 1 [.string (tx (decDigits (a + i)) ++ ⟨#[47]⟩ ++ tx p.proto), .string (tx p.ip), .string hst] rfl rfl (cell_three_new _ _ _ _ _) (three_str _ _ _) (by unfold maxLen; omega) (by omega) (by simp; omega) ?_; intro v' w9 hown9 hgrow9 _)
      go_roundg (gk - 1)
      case measure => have := hm.out; omega
      case rel =>
        have e1 := hm.out
        refine ⟨i + 1, by go_num, show _ = _ by omega, by omega, ?_, ?_⟩
        · show World.ownsRow _ _ _ _ _ _ _
          rw [HmsT.out i (by have := HN.out; omega), m3V_snoc, HM1.out, Hin2.out, ← Hst.out]
          exact hown9
        · exact (HB8.out.alloc hs8 _).grown hgrow9 (by simp; omega) (own_block_ge3 hown8)
    · obtain rfl : i = N := by omega
      have hlt : decide ((i : Int) < 1) = false := decide_eq_false (by have := HNi.out; omega)
      have hltn : decide (i < 1) = false := decide_eq_false (by have := HN.out; omega)
      have hlen : i = p.ms.length := by rw [HmsN.out]; exact HN.out
      have Hfin : Hid (∃ g c, Value.slice ao i cc = .slice (some ⟨g, 0, none⟩) p.ms.length c ∧ W4.heap.size ≤ g ∧ M3At wr g p.ms) := by
        have h := hown.out
        rw [hlen, List.take_length] at h
        obtain ⟨g, c, e, hg, hm3⟩ := m3_of_own h rfl (by omega)
        exact ⟨g, c, by rw [hlen]; exact e, hg, hm3⟩
      have HWs : Hid (w.heap.size ≤ W4.heap.size) := HB.out.size
      clear hown hlen
      go_wp2_with fail
      go_ret2
      obtain ⟨g, c, e, hg, hm3⟩ := Hfin.out
      exact ⟨g, c, by rw [← e]; rfl, Nat.le_trans HWs.out hg, hm3, HB4.out⟩
end Go.Proofs.YtdmggcbbfljciaaGreatDoor

/- ParsePortSpec at a proper specification (more ports). -/
namespace Go.Proofs.YtdmggcbbfljciaaGreatDoor
open Go.RowKit Go.Lib

set_option maxRecDepth 100000 in
set_option maxHeartbeats 16000000 in
theorem portSpec_many (a b h g : Nat) (hab : a ≠ b) (p : Pub) (ea : p.a = a) (eb : p.b = b) (eh : p.h = h) (eg : p.g = g) (hp : p.Ok) (w : World) (hT : Tabs w)
    (hip : p.ip ≠ [] → ∀ W, Calls Tryz.prog 45 #[.string (tx p.ip)] W fun e w' => e = .returned (.bool true) ∧ Below W.heap.size W w')
    (hsh : sixL p.ip → ∀ W, Calls Tryz.prog 44 #[.string (tx (91 :: p.ip ++ [93]) ++ ⟨#[58]⟩)] W fun e w' => e = .returned (.tuple #[.string (tx p.ip), .string ⟨#[]⟩, .nilIface]) ∧ Below W.heap.size W w') :
    Calls Tryz.prog 26 #[.string (tx p.text)] w fun e w' => ∃ g c : Nat, e = .returned (.tuple #[.slice (some ⟨g, 0, none⟩) p.ms.length c, .nilIface]) ∧ w.heap.size ≤ g ∧ M3At w' g p.ms ∧ Below w.heap.size w w' := by
  obtain ⟨i0, hi, hz0, hz1, hz2⟩ := info_parts info67
  have Ht := Lib.hid hT
  have Hp := Lib.hid hp
  have b9 : b ≤ 65535 := by have h' := hp.b9; rw [eb] at h'; exact h'
  have ab : a ≤ b := by have h' := hp.ab; rw [ea, eb] at h'; exact h'
  have a9 : a ≤ 65535 := Nat.le_trans ab b9
  have n2 : b - a ≤ 200 := by have h' := hp.n; rw [ea, eb] at h'; exact h'
  have hg3 : h ≤ 65535 ∧ g ≤ 65535 ∧ h ≤ g := by have h' := Pub.host_ok hp; rw [eh, eg] at h'; exact h'
  obtain ⟨h9, g9, hg⟩ := hg3
  have Hhost : Hid ((h = 0 ∧ g = 0) ∨ (1 ≤ h ∧ h ≤ g ∧ g ≤ 65535 ∧ (g - h = b - a ∨ (b = a ∧ g - h ≤ 200)))) := by
    have h' := hp.host
    rw [ea, eb, eh, eg] at h'
    exact h'
  have Hhn : Hid (p.hostT = [] ↔ h = 0) := by
    have h' := p.host_nil
    rw [eh] at h'
    exact h'
  have Hht : Hid (h ≠ 0 → p.hostT = numT h g) := by
    intro hne0
    unfold Pub.hostT
    rw [eh, eg, if_neg hne0]
  have Hm2 : Hid (∀ i, (p.m i).2.2 = if h = 0 then [] else if a = b then numT h g else decDigits (h + i)) := by
    intro i
    show (if p.h = 0 then [] else if p.a = p.b then numT p.h p.g else decDigits (p.h + i)) = _
    rw [ea, eb, eh, eg]
  have Hm1 : Hid (∀ i, (p.m i).1 = decDigits (a + i) ++ 47 :: p.proto) := by
    intro i
    show decDigits (p.a + i) ++ 47 :: p.proto = _
    rw [ea]
  have HmsN : Hid (p.ms.length = b - a + 1) := by
    show _ = _
    rw [p.ms_len, ea, eb]
  have HmsT : Hid (∀ i, i < b - a + 1 → p.ms.take (i + 1) = p.ms.take i ++ [p.m i]) := by
    intro i hi'
    exact p.ms_take i (by rw [ea, eb]; exact hi')
  have Hip := Lib.hid hip
  have Hsh := Lib.hid hsh
  have zo : (tx p.outT).size ≤ 131080 := by rw [tx_size]; exact Pub.out_len hp
  have zp : (tx p.proto).size ≤ 4 := by rw [tx_size]; rcases hp.pr with h | h | h <;> rw [h] <;> decide
  have hpr0 : p.proto ≠ [] := by rcases hp.pr with h | h | h <;> rw [h] <;> decide
  have hns : (47 : UInt8) ∉ numT a b := by
    unfold numT
    split
    · exact no_slash _
    · intro e
      rcases List.mem_append.1 e with e | e
      · exact no_slash _ e
      · rcases List.mem_cons.1 e with e | e
        · cases e
        · exact no_slash _ e
  have Hs1 := Lib.hid (splitParts_pub p hp)
  have Hs2 := Lib.hid (splitProto (tx p.outT) (tx p.proto) (numT a b) (by show numT p.a p.b ++ 47 :: p.proto = _; rw [ea, eb]; rfl) hns (numT_ne' _ _) hpr0 (by omega))
  have Hs3 := Lib.hid (toLower_proto (tx p.proto) hp.pr)
  have Hs4 := Lib.hid (validateProto_ok (tx p.proto) hp.pr)
  have Hs5 := Lib.hid (portRange_any (tx (numT a b)) a b rfl ab b9)
  clear hT hp hip hsh hns hpr0 ea eb eh eg
  go_enter Tryz.func26, Tryz.ntmps26
  go_wp2_with fail
  refine (Hs1.out _).mono ?_
  rintro e w2 ⟨rfl, hb2⟩
  go_wp2_with fail
  refine (Hs2.out _).mono ?_
  rintro e w3 ⟨r, rfl, hr, hb3⟩
  obtain rfl : r = tx (numT a b) := tx_of hr.out
  have HB : Hid (Below w.heap.size w w3) := hb2.trans (hb3.mono hb2.size)
  have hne2 := str_some (tx (numT a b)) (numT_ne' _ _)
  clear hb2 hb3 hr
  go_wp2_with fail
  refine (Hs3.out _).mono ?_
  rintro e w4 ⟨rfl, hb4⟩
  go_wp2_with fail
  refine (Hs4.out _).mono ?_
  rintro e w5 ⟨rfl, hb5⟩
  have HB : Hid (Below w.heap.size w w5) := (HB.out.trans (hb4.mono HB.out.size)).trans (hb5.mono (Nat.le_trans HB.out.size hb4.size))
  clear hb4 hb5 hne2
  go_upto_region 9 with fail
  go_cut [48] from 42 to 48 (fun s48 wc => s48 = .bool (decide (sixL p.ip)) ∧ wc = w5)
  case first =>
    by_cases h0 : p.ip = []
    · have e1 : p.ipT = [] := by unfold Pub.ipT; rw [if_neg (by rw [h0]; decide), h0]
      have Hd : Hid (decide (sixL p.ip) = false) := decide_eq_false (by rw [h0]; decide)
      have hs := str_nil (tx p.ipT) e1
      clear h0 e1
      go_wp2_with fail
      go_meet
      case rel => exact ⟨by rw [Hd.out], rfl⟩
    · have hne0 : p.ipT ≠ [] := by
        unfold Pub.ipT
        split
        · simp
        · exact h0
      have hs := str_some (tx p.ipT) hne0
      have hs0 : 0 < (tx p.ipT).size := by rw [tx_size]; exact List.length_pos_iff.2 hne0
      have hb0 : ((tx p.ipT)[0]'hs0).toNat = (p.ipT.getD 0 0).toNat := byte_get (tx p.ipT) 0 hs0
      by_cases h6 : sixL p.ip
      · have Hd : Hid (decide (sixL p.ip) = true) := decide_eq_true h6
        have e2 : p.ipT.getD 0 0 = 91 := by unfold Pub.ipT; rw [if_pos h6]; rfl
        have hb1 : ((tx p.ipT)[0]'hs0).toNat = 91 := by rw [hb0, e2]; rfl
        have hb2 : ((((tx p.ipT)[0]'hs0).toNat : Int) == 91) = true := by rw [hb1]; rfl
        clear h0 h6 e2 hb0
        go_wp2_with fail
        go_meet
        case rel => exact ⟨by rw [Hd.out], rfl⟩
      · have Hd : Hid (decide (sixL p.ip) = false) := decide_eq_false h6
        have h4 : F4.Is p.ip := by
          rcases Hp.out.ip with e | e | e
          · exact absurd e h0
          · exact e
          · exact absurd e h6
        have e2 : (p.ipT.getD 0 0).toNat ≠ 91 := by
          have e3 : p.ipT = p.ip := by unfold Pub.ipT; rw [if_neg h6]
          rw [e3]
          have hl := List.length_pos_iff.2 h0
          rcases h4.byte 0 hl with e | e <;> omega
        have hb1 : ((((tx p.ipT)[0]'hs0).toNat : Int) == 91) = false := by simp; omega
        clear h0 h6 e2 h4 hb0
        go_wp2_with fail
        go_meet
        case rel => exact ⟨by rw [Hd.out], rfl⟩
  case rest =>
  obtain ⟨rfl, hww⟩ := hcut
  subst hww
  obtain ⟨W, hww⟩ : ∃ X, X = wc := ⟨_, rfl⟩
  subst hww
  go_upto_if 48 with fail
  go_cut [4] from 42 to 59 (fun s4 wc => s4 = .string (tx p.ip) ∧ Below W.heap.size W wc)
  case first =>
    by_cases h6 : sixL p.ip
    · have e1 : p.ipT = 91 :: p.ip ++ [93] := by unfold Pub.ipT; rw [if_pos h6]
      rw [decide_eq_true h6]
      have hz : (tx p.ipT).size ≤ 100 := by rw [e1, tx_size]; have := (six_no _ h6).2.2.2.2.2; simp; omega
      have H : Hid (∀ W, Calls Tryz.prog 44 #[.string (tx p.ipT ++ ⟨#[58]⟩)] W fun e w' => e = .returned (.tuple #[.string (tx p.ip), .string ⟨#[]⟩, .nilIface]) ∧ Below W.heap.size W w') := by
        show ∀ W, _
        rw [e1]; exact Hsh.out h6
      clear h6 e1
      go_wp2_with fail
      refine (H.out _).mono ?_
      rintro e w6 ⟨rfl, hb6⟩
      go_wp2_with fail
      go_meet
      case rel => exact ⟨rfl, hb6⟩
    · have e1 : p.ipT = p.ip := by unfold Pub.ipT; rw [if_neg h6]
      rw [decide_eq_false h6]
      have E1 := Lib.hid e1
      clear e1
      go_wp2_with fail
      go_meet
      case rel => exact ⟨by rw [E1.out], Below.refl _ _⟩
  case rest =>
  obtain ⟨rfl, hbc⟩ := hcut
  have HB : Hid (Below w.heap.size w wc) := HB.out.trans (hbc.mono HB.out.size)
  clear hbc
  obtain ⟨W2, hww⟩ : ∃ X, X = wc := ⟨_, rfl⟩
  subst hww
  go_upto_region 14 with fail
  go_cut [66] from 60 to 66 (fun s66 wc => s66 = .bool false ∧ Below W2.heap.size W2 wc)
  case first =>
    by_cases h0 : p.ip = []
    · have hs := str_nil (tx p.ip) h0
      clear h0
      go_wp2_with fail
      go_meet
      case rel => exact ⟨rfl, Below.refl _ _⟩
    · have hs := str_some (tx p.ip) h0
      have H := Lib.hid (Hip.out h0)
      clear h0
      go_wp2_with fail
      refine (H.out _).mono ?_
      rintro e w6 ⟨rfl, hb6⟩
      go_wp2_with fail
      go_meet
      case rel => exact ⟨rfl, hb6⟩
  case rest =>
  obtain ⟨rfl, hbc⟩ := hcut
  have HB : Hid (Below w.heap.size w wc) := HB.out.trans (hbc.mono HB.out.size)
  clear hbc
  go_wp2_with fail
  refine (Hs5.out _).mono ?_
  rintro e w6 ⟨rfl, hb6⟩
  have HB : Hid (Below w.heap.size w w6) := HB.out.trans (hb6.mono HB.out.size)
  clear hb6 Hs1 Hs2 Hs3 Hs4 Hs5 Hsh Hip
  go_upto_region 20 with fail
  go_cut [82] from 81 to 82 (fun s82 wc => s82 = .bool (decide (h ≠ 0)) ∧ wc = w6)
  case first =>
    by_cases h0 : h = 0
    · have hs := str_nil (tx p.hostT) (Hhn.out.2 h0)
      have D : Hid (decide (h ≠ 0) = false) := decide_eq_false (fun e => e h0)
      clear h0
      go_wp2_with fail
      go_meet
      case rel => exact ⟨by rw [D.out], rfl⟩
    · have hs := str_some (tx p.hostT) (fun e => h0 (Hhn.out.1 e))
      have D : Hid (decide (h ≠ 0) = true) := decide_eq_true h0
      clear h0
      go_wp2_with fail
      go_meet
      case rel => exact ⟨by rw [D.out], rfl⟩
  case rest =>
  obtain ⟨rfl, hww⟩ := hcut
  subst hww
  obtain ⟨W3, hww⟩ : ∃ X, X = wc := ⟨_, rfl⟩
  subst hww
  go_upto_if 82 with fail
  go_cut [14, 15, 16] from 81 to 104 (fun s14 s15 s16 wc => s15 = .int .i64 h ∧ s16 = .int .i64 g ∧ Below W3.heap.size W3 wc)
  case first =>
    rcases Hhost.out with ⟨h0, h1⟩ | ⟨h0, h1, h2, h3⟩
    · have H0 := Lib.hid h0
      have H1 := Lib.hid h1
      rw [decide_eq_false (fun e => e h0)]
      clear h0 h1
      go_wp2_with fail
      go_meet
      case rel => exact ⟨by rw [H0.out]; rfl, by rw [H1.out]; rfl, Below.refl _ _⟩
    · have hne3 : h ≠ 0 := by omega
      rw [decide_eq_true hne3]
      have H := Lib.hid (portRange_any (tx p.hostT) h g (Hht.out hne3) h1 h2)
      have d1 : (((b : Int) - (a : Int)) != ((g : Int) - (h : Int))) = false := by simp; omega
      clear h3 hne3 h0
      go_wp2_with fail
      refine (H.out _).mono ?_
      rintro e w7 ⟨rfl, hb7⟩
      go_wp2_with fail
      go_meet
      case rel => exact ⟨rfl, rfl, hb7⟩
  case rest =>
  obtain ⟨rfl, rfl, hbc⟩ := hcut
  have HB : Hid (Below w.heap.size w wc) := HB.out.trans (hbc.mono HB.out.size)
  clear hbc
  obtain ⟨W4, hww⟩ : ∃ X, X = wc := ⟨_, rfl⟩
  subst hww
  obtain ⟨N, HN, hN1, hN0, hNi⟩ : ∃ N, Hid (N = b - a + 1) ∧ N ≤ 201 ∧ 1 ≤ N ∧ ((b : Int) - (a : Int) + 1) = (N : Int) := ⟨b - a + 1, rfl, by omega, by omega, by omega⟩
  have HNi := Lib.hid hNi
  clear hNi
  go_wp2_with (at_make; refine wpList_make_own _ rfl _ _ 58 rfl W4.heap.size 67 i0 (.agg #[.string ⟨#[]⟩, .string ⟨#[]⟩, .string ⟨#[]⟩]) 3 Tryz.underlying58 hi hz0 hz1 .i64 .i64 _ N rfl rfl (by first | exact HNi.out | (have := HNi.out; omega)) (by rw [hz2]; omega) (by unfold maxLen; omega) (Nat.le_refl _) ?_; intro w0 hown0 hgrow0)
  have Hown0 := Lib.hid hown0
  have Hb0 : Hid (Below W4.heap.size W4 w0) := (Below.refl _ _).grown hgrow0 (Nat.le_refl _) (fun j hj => by cases hj)
  clear hown0 hgrow0
  go_loopg [18, 112] (N + 1) (fun m sv iv wr => ∃ i : Nat, iv = .int .i64 i ∧ Hid (m + i = N + 1) ∧ i ≤ N ∧ Hid (wr.ownsRow W4.heap.size 67 3 sv i (m3V (p.ms.take i))) ∧ Hid (Below W4.heap.size W4 wr))
  case atStart => exact ⟨0, rfl, rfl, Nat.zero_le _, Hown0.out, Hb0.out⟩
  case round =>
    obtain ⟨i, rfl, hm, hiN, hown, hbel⟩ := hrel
    obtain ⟨ao, cc, rfl⟩ := owns_shape3 hown.out
    have HB4 : Hid (Below w.heap.size w wr) := HB.out.trans (hbel.out.mono HB.out.size)
    by_cases hin : i < N
    · have hlt : decide ((i : Int) < ((b : Int) - (a : Int) + 1)) = true := decide_eq_true (by have := HNi.out; omega)
      go_upto_region 33 with fail
      go_cut [112, 116] from 112 to 147 (fun s112 s116 wc => s112 = .int .i64 i ∧ s116 = .bool (decide (h ≠ 0)) ∧ wc = wr)
      case first =>
        by_cases h0 : h = 0
        · have hs := str_nil (tx p.hostT) (Hhn.out.2 h0)
          have D : Hid (decide (h ≠ 0) = false) := decide_eq_false (fun e => e h0)
          clear h0
          go_wp2_with fail
          go_meet
          case rel => exact ⟨rfl, by rw [D.out], rfl⟩
        · have hs := str_some (tx p.hostT) (fun e => h0 (Hhn.out.1 e))
          have D : Hid (decide (h ≠ 0) = true) := decide_eq_true h0
          clear h0
          go_wp2_with fail
          go_meet
          case rel => exact ⟨rfl, by rw [D.out], rfl⟩
      case rest =>
      obtain ⟨rfl, rfl, hww⟩ := hcut
      subst hww
      obtain ⟨wr, hww⟩ : ∃ X, X = wc := ⟨_, rfl⟩
      subst hww
      go_upto_if 116 with fail
      go_cut [20, 112] from 112 to 147 (fun s20 s112 wc => s20 = .string (tx (p.m i).2.2) ∧ s112 = .int .i64 i ∧ Below wr.heap.size wr wc)
      case first =>
        by_cases h0 : h = 0
        · rw [decide_eq_false (fun e => e h0)]
          have E2 : Hid (tx (p.m i).2.2 = tx []) := by show _ = _; rw [Hm2.out, if_pos h0]
          clear h0
          go_wp2_with fail
          go_meet
          case rel => exact ⟨by rw [E2.out]; rfl, rfl, Below.refl _ _⟩
        · rw [decide_eq_true h0]
          have Hi1 := Lib.hid (fun W hT => itoa_tx (h + i) ((h : Int) + (i : Int)) (by omega) (by omega) W hT)
          have z1 : (tx (decDigits (h + i))).size ≤ 66000 := by rw [tx_size]; have := dec_len (h + i); omega
          have z2 : (tx (decDigits g)).size ≤ 66000 := by rw [tx_size]; have := dec_len g; omega
          have E2 : Hid (tx (p.m i).2.2 = tx (decDigits (h + i))) := by
            show _ = _
            rw [Hm2.out, if_neg h0, if_neg hab]
          have d1 : (((b : Int) - (a : Int) + 1) == 1) = false := by simp; omega
          clear h0
          go_wp2_with fail
          refine (Hi1.out _ (Ht.out.below HB4.out)).mono ?_
          rintro e w7 ⟨rfl, hb7⟩
          go_wp2_with fail
          go_meet
          case rel => exact ⟨by rw [E2.out], rfl, hb7⟩
      case rest =>
      obtain ⟨rfl, rfl, hbc⟩ := hcut
      have HB5 : Hid (Below w.heap.size w wc) := HB4.out.trans (hbc.mono HB4.out.size)
      have Hb5 : Hid (Below W4.heap.size W4 wc) := hbel.out.trans (hbc.mono hbel.out.size)
      have Hown5 := Lib.hid (own_below3 hown.out hbc)
      have Hi3 := Lib.hid (fun W hT => itoa_tx (a + i) ((a : Int) + (i : Int)) (by omega) (by omega) W hT)
      have z1 : (tx (decDigits (a + i))).size ≤ 66000 := by rw [tx_size]; have := dec_len (a + i); omega
      have HM1 : Hid (tx (p.m i).1 = tx (decDigits (a + i)) ++ ⟨#[47]⟩ ++ tx p.proto) := by
        show _ = _
        rw [Hm1.out i]
        exact (tx_of (by rw [app_bytes, app_bytes, tx_list, tx_list]; simp)).symm
      have hin2 : (p.m i).2.1 = p.ip := rfl
      have Hin2 := Lib.hid hin2
      clear hbc hown hbel hin2
      obtain ⟨hst, hHst⟩ : ∃ x, x = tx (p.m i).2.2 := ⟨_, rfl⟩
      rw [← hHst]
      have Hst := Lib.hid hHst
      clear hHst
      go_wp2_with fail
      refine (Hi3.out _ (Ht.out.below HB5.out)).mono ?_
      rintro e w8 ⟨rfl, hb8⟩
      have HB8 : Hid (Below W4.heap.size W4 w8) := Hb5.out.trans (hb8.mono Hb5.out.size)
      have hown8 := own_below3 Hown5.out hb8
      have hs8 := HB8.out.size
      clear hb8
      go_wp2_with (at_builtin; refine wpList_append_own _ rfl (.tmp 133) (.tmp 145) 58 rfl W4.heap.size 67 i0 (.agg #[.string ⟨#[]⟩, .string ⟨#[]⟩, .string ⟨#[]⟩]) 3 48 Tryz.underlying58 hi hz0 hz1 hz2 rfl (by decide) _ _ _ rfl (hown8.alloc _) ⟨w8.heap.size, 0, none⟩ 1 1 [.string (tx (decDigits (a + i)) ++ ⟨#[47]⟩ ++ tx p.proto), .string (tx p.ip), .string hst] rfl rfl (cell_three_new _ _ _ _ _) (three_str _ _ _) (by unfold maxLen; omega) (by omega) (by simp; omega) ?_; intro v' w9 hown9 hgrow9 _)
      go_roundg (gk - 1)
      case measure => have := hm.out; omega
      case rel =>
        have e1 := hm.out
        refine ⟨i + 1, by go_num, show _ = _ by omega, by omega, ?_, ?_⟩
        · show World.ownsRow _ _ _ _ _ _ _
          rw [HmsT.out i (by have := HN.out; omega), m3V_snoc, HM1.out, Hin2.out, ← Hst.out]
          exact hown9
        · exact (HB8.out.alloc hs8 _).grown hgrow9 (by simp; omega) (own_block_ge3 hown8)
    · obtain rfl : i = N := by omega
      have hlt : decide ((i : Int) < ((b : Int) - (a : Int) + 1)) = false := decide_eq_false (by have := HNi.out; omega)
      have hlen : i = p.ms.length := by rw [HmsN.out]; exact HN.out
      have Hfin : Hid (∃ g c, Value.slice ao i cc = .slice (some ⟨g, 0, none⟩) p.ms.length c ∧ W4.heap.size ≤ g ∧ M3At wr g p.ms) := by
        have h := hown.out
        rw [hlen, List.take_length] at h
        obtain ⟨g, c, e, hg, hm3⟩ := m3_of_own h rfl (by omega)
        exact ⟨g, c, by rw [hlen]; exact e, hg, hm3⟩
      have HWs : Hid (w.heap.size ≤ W4.heap.size) := HB.out.size
      clear hown hlen
      go_wp2_with fail
      go_ret2
      obtain ⟨g, c, e, hg, hm3⟩ := Hfin.out
      exact ⟨g, c, by rw [← e]; rfl, Nat.le_trans HWs.out hg, hm3, HB4.out⟩
end Go.Proofs.YtdmggcbbfljciaaGreatDoor

/- ParsePortSpec at a proper specification. -/
namespace Go.Proofs.YtdmggcbbfljciaaGreatDoor
open Go.RowKit Go.Lib

theorem portSpec_ok (p : Pub) (hp : p.Ok) (w : World) (hT : Tabs w)
    (hip : p.ip ≠ [] → ∀ W, Calls Tryz.prog 45 #[.string (tx p.ip)] W fun e w' => e = .returned (.bool true) ∧ Below W.heap.size W w')
    (hsh : sixL p.ip → ∀ W, Calls Tryz.prog 44 #[.string (tx (91 :: p.ip ++ [93]) ++ ⟨#[58]⟩)] W fun e w' => e = .returned (.tuple #[.string (tx p.ip), .string ⟨#[]⟩, .nilIface]) ∧ Below W.heap.size W w') :
    Calls Tryz.prog 26 #[.string (tx p.text)] w fun e w' => ∃ g c : Nat, e = .returned (.tuple #[.slice (some ⟨g, 0, none⟩) p.ms.length c, .nilIface]) ∧ w.heap.size ≤ g ∧ M3At w' g p.ms ∧ Below w.heap.size w w' := by
  by_cases hab : p.a = p.b
  · by_cases hhg : p.h = p.g
    · exact portSpec_one p.a p.h p rfl hab.symm rfl hhg.symm hp w hT hip hsh
    · exact portSpec_two p.a p.h p.g hhg p rfl hab.symm rfl rfl hp w hT hip hsh
  · exact portSpec_many p.a p.b p.h p.g hab p rfl rfl rfl rfl hp w hT hip hsh
end Go.Proofs.YtdmggcbbfljciaaGreatDoor
