/- netip.parseIPv6: a text that does not begin with '::'. -/
import Derived.Test.YtdmggcbbfljciaaGreatDoorPubC
namespace Go.Proofs.YtdmggcbbfljciaaGreatDoor
open Go.RowKit Go.Lib

theorem byte6 (s : ByteArray) (r q : List UInt8) (h : s.data.toList = r ++ q) (hg : G6.Grp r) (j : Nat) (hj : j < r.length) : ∃ hjs : j < s.size, G6.hex (s[j]'hjs) := by
  have hjs : j < s.size := by rw [Lib.size_eq, h]; simp; omega
  refine ⟨hjs, ?_⟩
  have e := byte_get s j hjs
  have e2 : s.data.toList.getD j 0 = r[j] := by rw [h]; simp [List.getD, List.getElem?_append_left hj, List.getElem?_eq_getElem hj]
  have e3 : s[j]'hjs = r[j] := UInt8.toNat_inj.1 (by rw [e, e2])
  rw [e3]; exact hg.1 _ (List.getElem_mem hj)

theorem byte6_at (s : ByteArray) (r t : List UInt8) (c : UInt8) (h : s.data.toList = r ++ c :: t) (hrl : r.length < s.size) : ((s[r.length]'hrl).toNat : Int) = c.toNat := by
  have e := byte_get s r.length hrl
  have e2 : s.data.toList.getD r.length 0 = c := by rw [h]; simp [List.getD]
  rw [e, e2]

theorem pow6 (a j : Nat) (h : a < 16 ^ j) (hj : j ≤ 3) : a < 4096 := by
  have : 16 ^ j ≤ 16 ^ 3 := Nat.pow_le_pow_right (by omega) hj
  omega

theorem pow6s (a j : Nat) (h : a < 16 ^ j) (x : Nat) (hx : x < 16) : a * 16 + x < 16 ^ (j + 1) := by
  rw [Nat.pow_succ]; omega

theorem drop6 (s : ByteArray) (r q : List UInt8) (h : s.data.toList = r ++ q) : (s.extract r.length s.size).data.toList = q := by
  rw [Lib.extract_data, Lib.size_eq, h]; simp

theorem splice16 (cur : List Value) (e d : Nat) (hcl : cur.length = 16) (hcc : ∀ k, k < 16 → ∃ x : Int, cur[k]? = some (.int .u8 x)) (h : e + d ≤ 16) :
    (splice cur e (List.replicate d (.int .u8 0))).length = 16 ∧ ∀ k, k < 16 → ∃ x : Int, (splice cur e (List.replicate d (.int .u8 0)))[k]? = some (.int .u8 x) := by
  unfold splice
  refine ⟨by simp; omega, fun k hk => ?_⟩
  by_cases h1 : k < e
  · obtain ⟨x, hx⟩ := hcc k hk
    refine ⟨x, ?_⟩
    rw [List.getElem?_append_left (by simp; omega), List.getElem?_take_of_lt h1]; exact hx
  · by_cases h2 : k < e + d
    · refine ⟨0, ?_⟩
      rw [List.getElem?_append_right (by simp; omega), List.getElem?_append_left (by simp; omega), List.getElem?_replicate_of_lt (by simp; omega)]
    · obtain ⟨x, hx⟩ := hcc k hk
      refine ⟨x, ?_⟩
      rw [List.getElem?_append_right (by simp; omega), List.getElem?_append_right (by simp; omega), List.getElem?_drop]
      rw [← hx]
      congr 1
      simp
      omega

/-- the text behind the figures, and behind the colon -/
theorem cut6_one (s : ByteArray) (r t : List UInt8) (h : s.data.toList = r ++ 58 :: t) (htc : t.getD 0 58 ≠ 58) :
    ∃ s1 s2 : ByteArray, s.extract r.length s.size = s1 ∧ s1.extract 1 s1.size = s2 ∧ ∃ (g1 : 0 < s1.size) (g2 : 0 < s2.size), ((((s1[0]'g1).toNat : Int) == 58) = true) ∧ ((((s2[0]'g2).toNat : Int) == 58) = false) ∧ Hid (s2.data.toList = t) ∧ 2 ≤ s1.size ∧ s2.size ≤ s.size := by
  have e1 := drop6 s r _ h
  have e2 : ((s.extract r.length s.size).extract 1 (s.extract r.length s.size).size).data.toList = t := drop6 (s.extract r.length s.size) [58] t e1
  have g1 : 0 < (s.extract r.length s.size).size := by rw [Lib.size_eq, e1]; simp
  have ht : t ≠ [] := by rintro rfl; exact htc rfl
  have g2 : 0 < ((s.extract r.length s.size).extract 1 (s.extract r.length s.size).size).size := by
    rw [Lib.size_eq, e2]; exact List.length_pos_iff.2 ht
  refine ⟨_, _, rfl, rfl, g1, g2, ?_, ?_, e2, ?_, ?_⟩
  · have := byte6_at (s.extract r.length s.size) [] t 58 e1 g1
    simpa using this
  · obtain ⟨c, t', rfl⟩ := List.exists_cons_of_ne_nil ht
    have := byte6_at _ [] t' c e2 g2
    have hc : c.toNat ≠ 58 := fun e => htc (UInt8.toNat_inj.1 e)
    simp at this ⊢
    omega
  · rw [Lib.size_eq, e1]; have := List.length_pos_iff.2 ht; simp; omega
  · rw [Lib.size_eq, e2, Lib.size_eq, h]; simp; omega

theorem cut6_two (s : ByteArray) (r t : List UInt8) (h : s.data.toList = r ++ 58 :: 58 :: t) (ht : t ≠ []) :
    ∃ s1 s2 s3 : ByteArray, s.extract r.length s.size = s1 ∧ s1.extract 1 s1.size = s2 ∧ s2.extract 1 s2.size = s3 ∧ ∃ (g1 : 0 < s1.size) (g2 : 0 < s2.size) (_ : 0 < s3.size), ((((s1[0]'g1).toNat : Int) == 58) = true) ∧ ((((s2[0]'g2).toNat : Int) == 58) = true) ∧ Hid (s3.data.toList = t) ∧ 2 ≤ s1.size ∧ s3.size ≤ s.size := by
  have e1 := drop6 s r _ h
  have e2 : ((s.extract r.length s.size).extract 1 (s.extract r.length s.size).size).data.toList = 58 :: t := drop6 (s.extract r.length s.size) [58] (58 :: t) e1
  obtain ⟨s1, hs1⟩ : ∃ s1, s.extract r.length s.size = s1 := ⟨_, rfl⟩
  rw [hs1] at e1 e2
  obtain ⟨s2, hs2⟩ : ∃ s2, s1.extract 1 s1.size = s2 := ⟨_, rfl⟩
  rw [hs2] at e2
  have e3 : (s2.extract 1 s2.size).data.toList = t := drop6 s2 [58] t e2
  obtain ⟨s3, hs3⟩ : ∃ s3, s2.extract 1 s2.size = s3 := ⟨_, rfl⟩
  rw [hs3] at e3
  have g1 : 0 < s1.size := by rw [Lib.size_eq, e1]; simp
  have g2 : 0 < s2.size := by rw [Lib.size_eq, e2]; simp
  have g3 : 0 < s3.size := by rw [Lib.size_eq, e3]; exact List.length_pos_iff.2 ht
  refine ⟨s1, s2, s3, hs1, hs2, hs3, g1, g2, g3, ?_, ?_, e3, ?_, ?_⟩
  · have := byte6_at s1 [] _ 58 e1 g1
    simpa using this
  · have := byte6_at s2 [] _ 58 e2 g2
    simpa using this
  · rw [Lib.size_eq, e1]; simp
  · rw [Lib.size_eq, e3, Lib.size_eq, h]; simp; omega


set_option maxRecDepth 100000 in
set_option maxHeartbeats 16000000 in
theorem parse6_mid (s0 : ByteArray) (n : Nat) (hg : G6.Good n s0.data.toList 0 (-1)) (hno : (37 : UInt8) ∉ s0.data.toList) (hl100 : s0.size ≤ 100) (h2 : 2 ≤ s0.size) (hnc : s0.data.toList.getD 0 0 ≠ 58) (w : World) :
    Calls Tryz.prog 94 #[.string s0] w fun e w' => (∃ x0 x1 : Int, e = .returned (.tuple #[.agg #[.int .u64 x0, .int .u64 x1, .bool true, .bool true, .string ⟨#[]⟩], .nilIface])) ∧ Below w.heap.size w w' := by
  have HG := Lib.hid hg
  have g0 : 0 < s0.size := by omega
  have b0 : (((s0[0]'g0).toNat : Int) == 58) = false := by
    have e := byte_get s0 0 g0
    have : (s0.data.toList.getD 0 0).toNat ≠ 58 := fun h => hnc (UInt8.toNat_inj.1 h)
    simp; omega
  have p2 : decide ((s0.size : Int) ≥ 2) = true := decide_eq_true (by omega)
  clear hg hnc
  have HV : Hid (Below w.heap.size w ((w.alloc (.cells #[.int .u64 0, .int .u64 0, .bool false, .bool false, .string ⟨#[]⟩] 125)).alloc (.cells #[.int .u8 0, .int .u8 0, .int .u8 0, .int .u8 0, .int .u8 0, .int .u8 0, .int .u8 0, .int .u8 0, .int .u8 0, .int .u8 0, .int .u8 0, .int .u8 0, .int .u8 0, .int .u8 0, .int .u8 0, .int .u8 0] 192))) := ((Below.refl _ _).alloc (Nat.le_refl _) _).alloc (by simp) _
  have r0 : ((w.alloc (.cells #[.int .u64 0, .int .u64 0, .bool false, .bool false, .string ⟨#[]⟩] 125)).alloc (.cells #[.int .u8 0, .int .u8 0, .int .u8 0, .int .u8 0, .int .u8 0, .int .u8 0, .int .u8 0, .int .u8 0, .int .u8 0, .int .u8 0, .int .u8 0, .int .u8 0, .int .u8 0, .int .u8 0, .int .u8 0, .int .u8 0] 192)).heap[w.heap.size]? = some (.cells #[.int .u64 0, .int .u64 0, .bool false, .bool false, .string ⟨#[]⟩] 125 (0, 0)) := by
    rw [Below.heap_alloc _ _ _ (by simp)]; exact heap_alloc_new _ _
  have r1 : Row16 ((w.alloc (.cells #[.int .u64 0, .int .u64 0, .bool false, .bool false, .string ⟨#[]⟩] 125)).alloc (.cells #[.int .u8 0, .int .u8 0, .int .u8 0, .int .u8 0, .int .u8 0, .int .u8 0, .int .u8 0, .int .u8 0, .int .u8 0, .int .u8 0, .int .u8 0, .int .u8 0, .int .u8 0, .int .u8 0, .int .u8 0, .int .u8 0] 192)) (w.heap.size + 1) := by
    have h := heap_alloc_new (w.alloc (.cells #[.int .u64 0, .int .u64 0, .bool false, .bool false, .string ⟨#[]⟩] 125)) (.cells #[.int .u8 0, .int .u8 0, .int .u8 0, .int .u8 0, .int .u8 0, .int .u8 0, .int .u8 0, .int .u8 0, .int .u8 0, .int .u8 0, .int .u8 0, .int .u8 0, .int .u8 0, .int .u8 0, .int .u8 0, .int .u8 0] 192)
    refine ⟨List.replicate 16 (.int .u8 0), ?_, rfl, fun k hk => ⟨0, List.getElem?_replicate_of_lt hk⟩⟩
    simpa using h
  have Hi := Lib.hid (indexByte_miss s0 hno hl100)
  have R0 := Lib.hid r0
  have R1 := Lib.hid r1
  have na : w.heap.size ≠ w.heap.size + 1 := by omega
  clear hno r0 r1
  go_enter Tryz.func94, Tryz.ntmps94
  go_wp2_with fail
  refine (Hi.out _).mono ?_
  rintro e w2 ⟨rfl, rfl⟩
  go_wp2_with fail
  generalize ((w.alloc (.cells #[.int .u64 0, .int .u64 0, .bool false, .bool false, .string ⟨#[]⟩] 125)).alloc (.cells #[.int .u8 0, .int .u8 0, .int .u8 0, .int .u8 0, .int .u8 0, .int .u8 0, .int .u8 0, .int .u8 0, .int .u8 0, .int .u8 0, .int .u8 0, .int .u8 0, .int .u8 0, .int .u8 0, .int .u8 0, .int .u8 0] 192)) = V at *
  have l0 := (Array.getElem?_eq_some_iff.1 R0.out).1
  have l1 : w.heap.size + 1 < V.heap.size := by obtain ⟨l, hl, -⟩ := R1.out; exact (Array.getElem?_eq_some_iff.1 hl).1
  go_loopg [4, 6, 8] (n + 1) (fun m sv iv ev wr => ∃ (n' : Nat) (s : ByteArray) (i : Nat) (e : Int), sv = .string s ∧ iv = .int .i64 i ∧ ev = .int .i64 e ∧ Hid (m = n' + 1) ∧ Hid (G6.Good n' s.data.toList i e) ∧ Hid (s.size ≤ 100) ∧ Hid (Row16 wr (w.heap.size + 1)) ∧ Hid (BelowX V.heap.size (w.heap.size + 1) V wr))
  case atStart => exact ⟨n, s0, 0, -1, rfl, rfl, rfl, rfl, HG.out, hl100, R1.out, BelowX.refl _ _ _⟩
  case round =>
    obtain ⟨n', s, i, e, rfl, rfl, rfl, hm, hgood, hs100, hrow, hbel⟩ := hrel
    cases n' with
    | zero => exact hgood.out.elim
    | succ n2 =>
    rcases hgood.out with ⟨h0, hgr, he0, hei, hi14⟩ | ⟨r, t, hst, hgr, htc, hi12, hg'⟩ | ⟨r, t, hst, hgr, htne, he1, hi12, hg'⟩
    · -- the last group
      have hlt : decide ((i : Int) < 16) = true := decide_eq_true (by omega)
      subst h0
      obtain ⟨r, hr⟩ : ∃ r, r = s.data.toList := ⟨_, rfl⟩
      rw [← hr] at hgr
      have hst : s.data.toList = r ++ [] := by rw [List.append_nil]; exact hr.symm
      have HS : Hid (∀ j (hj : j < r.length), ∃ hjs : j < s.size, G6.hex (s[j]'hjs)) := fun j hj => byte6 s r _ hst hgr j hj
      have hrl : s.size = r.length := by rw [Lib.size_eq, hr]
      obtain ⟨s1, hs1, hz⟩ : ∃ s1, s.extract r.length s.size = s1 ∧ (((s1.size : Nat) : Int) == 0) = true := ⟨_, rfl, by rw [Lib.size_eq, drop6 s r [] hst]; rfl⟩
      have r4 := hgr.2.2
      have r1 := hgr.2.1
      obtain ⟨e', rfl⟩ : ∃ e' : Nat, e = (e' : Int) := ⟨e.toNat, by omega⟩
      have hlt3 : decide ((r.length : Int) < (s.size : Int)) = false := decide_eq_false (by omega)
      have hz2 : (((s1.size : Nat) : Int) != 0) = false := by rw [bne, hz]; rfl
      have hb1 : decide ((i : Int) + 2 < 16) = true := decide_eq_true (by omega)
      have hb2 : decide ((e' : Int) < 0) = false := decide_eq_false (by omega)
      have Hrl := Lib.hid hrl
      have hle : r.length ≤ s.size := Nat.le_of_eq hrl.symm
      obtain ⟨⟨x0, f0⟩, f1⟩ := hrow.out.cell i (by omega)
      obtain ⟨⟨x1, f2⟩, f3⟩ := hrow.out.cell (i + 1) (by omega)
      clear hst hgr hgood hr hrl
      go_wp2
      go_loopg [9, 10] (r.length + 1) (fun m ov av w5 => ∃ j a : Nat, ov = .int .i64 j ∧ av = .int .u32 a ∧ Hid (m + j = r.length + 1) ∧ Hid (j ≤ r.length) ∧ Hid (a < 16 ^ j) ∧ w5 = wr)
      case atStart => exact ⟨0, 0, rfl, rfl, rfl, Nat.zero_le _, (show 0 < 16 ^ 0 by decide), rfl⟩
      case round =>
        obtain ⟨j, a, rfl, rfl, hm2, hj, ha, rfl⟩ := hrel
        by_cases hjr : j < r.length
        · obtain ⟨hjs, hx⟩ := HS.out j hjr
          have hlt2 : decide ((j : Int) < (s.size : Int)) = true := decide_eq_true (by omega)
          have b28 : decide ((j : Int) > 3) = false := decide_eq_false (by omega)
          have ha4 : a < 4096 := pow6 a j ha.out (by omega)
          have hc256 : (s[j]'hjs).toNat < 256 := (s[j]'hjs).toNat_lt
          have ha6 := pow6s a j ha.out
          rcases hx with ⟨c1, c2⟩ | ⟨c1, c2⟩
          · have b1 : decide (((s[j]'hjs).toNat : Int) ≥ 48) = true := by simp; omega
            have b2 : decide (((s[j]'hjs).toNat : Int) ≤ 57) = true := by simp; omega
            go_wp2
            go_roundg (gk - 1)
            case measure => have := hm2.out; omega
            case rel =>
              have e1 := hm2.out
              exact ⟨j + 1, a * 16 + ((s[j]'hjs).toNat - 48), by go_num, by go_num, show _ = _ by omega, show _ ≤ _ by omega, ha6 _ (by omega), rfl⟩
          · have b1 : decide (((s[j]'hjs).toNat : Int) ≥ 48) = true := by simp; omega
            have b2 : decide (((s[j]'hjs).toNat : Int) ≤ 57) = false := by simp; omega
            have b3 : decide (((s[j]'hjs).toNat : Int) ≥ 97) = true := by simp; omega
            have b4 : decide (((s[j]'hjs).toNat : Int) ≤ 102) = true := by simp; omega
            go_wp2
            go_roundg (gk - 1)
            case measure => have := hm2.out; omega
            case rel =>
              have e1 := hm2.out
              exact ⟨j + 1, a * 16 + ((s[j]'hjs).toNat - 97 + 10), by go_num, by go_num, show _ = _ by omega, show _ ≤ _ by omega, ha6 _ (by omega), rfl⟩
        · have hjr2 : j = r.length := Nat.le_antisymm hj.out (Nat.le_of_not_lt hjr)
          subst hjr2
          have b0 : ((r.length : Int) == 0) = false := beq_eq_false_iff_ne.2 (by omega)
          have i0 : (0 : Int) ≤ i := by omega
          have i1 : (0 : Int) ≤ (i : Int) + 1 := by omega
          have i2 : (i : Int) < 16 := by omega
          have i3 : (i : Int) + 1 < 16 := by omega
          have i4 : ((i : Int) + 1).toNat = i + 1 := by omega
          have hlt2 : decide ((r.length : Int) < (s.size : Int)) = false := decide_eq_false (by have := Hrl.out; omega)
          have hnl : ¬ r.length < s.size := Nat.not_lt_of_le (Nat.le_of_eq Hrl.out)
          go_wp2
          have Hd : Hid (i + 2 + (14 - i) = 16) := (show _ = _ by omega)
          obtain ⟨d, hd⟩ : ∃ d : Nat, d = 14 - i := ⟨_, rfl⟩
          have hd2 : (16 : Int) - ((i : Int) + 2) = (d : Int) := by omega
          rw [← hd] at Hd
          rw [hd2]
          clear hd hd2
          go_loopg [15] (i + 3 - e') (fun m jv w7 => ∃ (k : Nat) (z : Int), jv = .int .i64 z ∧ Hid (z = (k : Int) - 1) ∧ Hid (m + e' = k + 1) ∧ Hid (e' ≤ k) ∧ Hid (k ≤ i + 2) ∧ Hid (Row16 w7 (w.heap.size + 1)) ∧ Hid (BelowX V.heap.size (w.heap.size + 1) V w7))
          case atStart => exact ⟨i + 2, _, rfl, show _ = _ by omega, show _ = _ by omega, show _ ≤ _ by omega, Nat.le_refl _, (hrow.out.set i (by omega) _).set (i + 1) (by omega) _, (hbel.out.setc _ _).setc _ _⟩
          case round =>
            obtain ⟨k, z, rfl, hz, hm7, hk, hk2, hrow7, hbel7⟩ := hrel
            by_cases hke : k = e'
            · have dk : decide (z ≥ (e' : Int)) = false := decide_eq_false (by have := hz.out; omega)
              have e0 : (0 : Int) ≤ (e' : Int) := by omega
              have e1 : (e' : Int) ≤ 16 := by omega
              have e2 : (e' : Int) ≤ (e' : Int) + (d : Int) := by omega
              have e3 : (e' : Int) + (d : Int) ≤ 16 := by have := Hd.out; omega
              have e4 : ((e' : Int) + (d : Int)).toNat = e' + d := by omega
              have e5 : e' + d ≤ 16 := by have := Hd.out; omega
              have hdp : 0 < d := by have := Hd.out; omega
              obtain ⟨cur, hcur, hcl, hcc⟩ := hrow7.out
              have HC : Hid (wr.heap[w.heap.size + 1]? = some (.cells cur.toArray 192 (0, 0))) := hcur
              have Hfit : Hid (e' + d ≤ cur.length) := (show _ ≤ _ by rw [hcl]; exact e5)
              have Hdp := Lib.hid hdp
              have HL : Hid ((splice cur e' (List.replicate d (.int .u8 0))).length = 16 ∧ ∀ k, k < 16 → ∃ x : Int, (splice cur e' (List.replicate d (.int .u8 0)))[k]? = some (.int .u8 x)) := splice16 cur e' d hcl hcc e5
              have HB7 : Hid (Below w.heap.size w wr) := HV.out.trans (hbel7.out.below (Nat.le_succ _) HV.out.size)
              have R7 : Hid (wr.heap[w.heap.size]? = some (.cells #[.int .u64 0, .int .u64 0, .bool false, .bool false, .string ⟨#[]⟩] 125 (0, 0))) := (hbel7.out.block _ l0 na).trans R0.out
              generalize hLg : splice cur e' (List.replicate d (.int .u8 0)) = L at HL
              have HLg := Lib.hid hLg
              have hi16 : (Tryz.prog.info? 192).map (·.size) = some L.toArray.size := by
                rw [List.size_toArray, HL.out.1]; kernel_rfl
              clear hke hcur hcl hcc hdp hLg
              go_wp2_with (first | ((with_reducible refine wpList_clear_splice rfl (.tmp 269) 91 rfl 5 Tryz.underlying91 (.int .u8 0) (fun _ => by kernel_rfl) rfl rfl (w.heap.size + 1) e' d (16 - e') rfl cur 192 HC.out Hfit.out Hdp.out w.heap.size w HB7.out (Nat.le_succ _) ?_); intro w2 hg2 hbel2 hoth; rw [HLg.out] at hg2) | (with_reducible refine wpList_load_row rfl 192 (.tmp 7) rfl (w.heap.size + 1) rfl 192 L.toArray (0, 0) _ hg2.out Tryz.underlying192 rfl hi16 ?_))
              refine (addrFrom16_any L HL.out.1 HL.out.2 _).mono ?_
              rintro e w3 ⟨⟨z0, z1, rfl⟩, hb3⟩
              have R8 : Hid (w2.heap[w.heap.size]? = some (.cells #[.int .u64 0, .int .u64 0, .bool false, .bool false, .string ⟨#[]⟩] 125 (0, 0))) := (hoth.out _ na).trans R7.out
              have l8 := (Array.getElem?_eq_some_iff.1 R8.out).1
              have R9 := (hb3.block _ l8).trans R8.out
              have HB8 : Hid (Below w.heap.size w w3) := hbel2.trans (hb3.mono hbel2.size)
              go_wp2_with fail
              refine (withZone_any z0 z1 _).mono ?_
              rintro e w4 ⟨rfl, hb4⟩
              have l9 := (Array.getElem?_eq_some_iff.1 R9).1
              have R10 := (hb4.block _ l9).trans R9
              obtain ⟨y0, y1, y2, y3, y4, k0, k1, k2, k3, k4⟩ := five_facts R10
              have HB9 : Hid (Below w.heap.size w w4) := HB8.out.trans (hb4.mono HB8.out.size)
              clear hb4 hb3 R9 R10
              go_wp2_with fail
              (try simp only [Exit.inBlock, Exit.then])
              refine bodyPost_ret (v := .tuple #[.agg #[.int .u64 z0, .int .u64 z1, .bool true, .bool true, .string ⟨#[]⟩], .nilIface]) ?_ rfl ⟨⟨z0, z1, rfl⟩, ((((HB9.out.setCell (Nat.le_refl _) _).setCell (Nat.le_refl _) _).setCell (Nat.le_refl _) _).setCell (Nat.le_refl _) _).setCell (Nat.le_refl _) _⟩
              rw [results_cell_tmp rfl]
              go_simp
            · obtain ⟨k', rfl⟩ : ∃ k', k = k' + 1 := ⟨k - 1, by have := hk.out; omega⟩
              obtain rfl : z = (k' : Int) := by have := hz.out; omega
              have dk : decide ((k' : Int) ≥ (e' : Int)) = true := decide_eq_true (by have := hk.out; omega)
              have q5 : e' ≤ k' := by have := hk.out; omega
              have q0 : (0 : Int) ≤ (k' : Int) + (d : Int) := by omega
              have q1 : (k' : Int) + (d : Int) < 16 := by have := Hd.out; have := hk2.out; omega
              have q2 : ((k' : Int) + (d : Int)).toNat = k' + d := by omega
              have q3 : (0 : Int) ≤ (k' : Int) := by omega
              have q4 : (k' : Int) < 16 := by have := hk2.out; omega
              obtain ⟨⟨x8, f8⟩, f9⟩ := hrow7.out.cell k' (by omega)
              obtain ⟨⟨x6, f6⟩, f7⟩ := hrow7.out.cell (k' + d) (by omega)
              go_wp2
              go_roundg (gk - 1)
              case measure => have := hm7.out; omega
              case rel => exact ⟨k', _, rfl, rfl, show _ = _ by have := hm7.out; omega, show _ ≤ _ by have := hk.out; omega, show _ ≤ _ by have := hk2.out; omega, hrow7.out.set _ (by omega) _, hbel7.out.setc _ _⟩
    · -- a colon
      have hlt : decide ((i : Int) < 16) = true := decide_eq_true (by omega)
      obtain ⟨s1, s2, hs1, hs2, g1, g2, k1, k2, hT, hsz1, hsz3⟩ := cut6_one s r t hst htc
      have HS : Hid (∀ j (hj : j < r.length), ∃ hjs : j < s.size, G6.hex (s[j]'hjs)) := fun j hj => byte6 s r _ hst hgr j hj
      have hrl : r.length < s.size := by rw [Lib.size_eq, hst]; simp
      have hc : ((s[r.length]'hrl).toNat : Int) = 58 := byte6_at s r t 58 hst hrl
      have r4 := hgr.2.2
      have r1 := hgr.2.1
      have HG' := Lib.hid hg'
      have HT2 : Hid (s2.size ≤ 100) := Nat.le_trans hsz3 hs100.out
      obtain ⟨⟨x0, f0⟩, f1⟩ := hrow.out.cell i (by omega)
      obtain ⟨⟨x1, f2⟩, f3⟩ := hrow.out.cell (i + 1) (by omega)
      clear hst hgr htc hg' hgood hsz3
      go_wp2
      go_loopg [9, 10] (r.length + 1) (fun m ov av w5 => ∃ j a : Nat, ov = .int .i64 j ∧ av = .int .u32 a ∧ Hid (m + j = r.length + 1) ∧ Hid (j ≤ r.length) ∧ Hid (a < 16 ^ j) ∧ w5 = wr)
      case atStart => exact ⟨0, 0, rfl, rfl, rfl, Nat.zero_le _, (show 0 < 16 ^ 0 by decide), rfl⟩
      case round =>
        obtain ⟨j, a, rfl, rfl, hm2, hj, ha, rfl⟩ := hrel
        by_cases hjr : j < r.length
        · obtain ⟨hjs, hx⟩ := HS.out j hjr
          have hlt2 : decide ((j : Int) < (s.size : Int)) = true := by simp; omega
          have b28 : decide ((j : Int) > 3) = false := decide_eq_false (by omega)
          have ha4 : a < 4096 := pow6 a j ha.out (by omega)
          have hc256 : (s[j]'hjs).toNat < 256 := (s[j]'hjs).toNat_lt
          have ha6 := pow6s a j ha.out
          rcases hx with ⟨c1, c2⟩ | ⟨c1, c2⟩
          · have b1 : decide (((s[j]'hjs).toNat : Int) ≥ 48) = true := by simp; omega
            have b2 : decide (((s[j]'hjs).toNat : Int) ≤ 57) = true := by simp; omega
            go_wp2
            go_roundg (gk - 1)
            case measure => have := hm2.out; omega
            case rel =>
              have e1 := hm2.out
              exact ⟨j + 1, a * 16 + ((s[j]'hjs).toNat - 48), by go_num, by go_num, show _ = _ by omega, show _ ≤ _ by omega, ha6 _ (by omega), rfl⟩
          · have b1 : decide (((s[j]'hjs).toNat : Int) ≥ 48) = true := by simp; omega
            have b2 : decide (((s[j]'hjs).toNat : Int) ≤ 57) = false := by simp; omega
            have b3 : decide (((s[j]'hjs).toNat : Int) ≥ 97) = true := by simp; omega
            have b4 : decide (((s[j]'hjs).toNat : Int) ≤ 102) = true := by simp; omega
            go_wp2
            go_roundg (gk - 1)
            case measure => have := hm2.out; omega
            case rel =>
              have e1 := hm2.out
              exact ⟨j + 1, a * 16 + ((s[j]'hjs).toNat - 97 + 10), by go_num, by go_num, show _ = _ by omega, show _ ≤ _ by omega, ha6 _ (by omega), rfl⟩
        · have hjr2 : j = r.length := Nat.le_antisymm hj.out (Nat.le_of_not_lt hjr)
          subst hjr2
          have b0 : ((r.length : Int) == 0) = false := beq_eq_false_iff_ne.2 (by omega)
          have i0 : (0 : Int) ≤ i := by omega
          have i1 : (0 : Int) ≤ (i : Int) + 1 := by omega
          have i2 : (i : Int) < 16 := by omega
          have i3 : (i : Int) + 1 < 16 := by omega
          have i4 : ((i : Int) + 1).toNat = i + 1 := by omega
          have hlt2 : decide ((r.length : Int) < (s.size : Int)) = true := by simp; omega
          go_wp2
          go_roundg (n2 + 1)
          case measure => have := hm.out; omega
          case rel => exact ⟨n2, s2, i + 2, e, rfl, by go_num, rfl, rfl, by rw [← hT.out] at HG'; exact HG'.out, HT2.out, (hrow.out.set i (by omega) _).set (i + 1) (by omega) _, (hbel.out.setc _ _).setc _ _⟩
    · -- two colons
      have hlt : decide ((i : Int) < 16) = true := decide_eq_true (by omega)
      subst he1
      obtain ⟨s1, s2, s3, hs1, hs2, hs3, g1, g2, g3, k1, k2, hT, hsz1, hsz3⟩ := cut6_two s r t hst htne
      have HS : Hid (∀ j (hj : j < r.length), ∃ hjs : j < s.size, G6.hex (s[j]'hjs)) := fun j hj => byte6 s r _ hst hgr j hj
      have hrl : r.length < s.size := by rw [Lib.size_eq, hst]; simp
      have hc : ((s[r.length]'hrl).toNat : Int) = 58 := byte6_at s r _ 58 hst hrl
      have r4 := hgr.2.2
      have r1 := hgr.2.1
      have HG' := Lib.hid hg'
      have HT2 : Hid (s3.size ≤ 100) := Nat.le_trans hsz3 hs100.out
      obtain ⟨⟨x0, f0⟩, f1⟩ := hrow.out.cell i (by omega)
      obtain ⟨⟨x1, f2⟩, f3⟩ := hrow.out.cell (i + 1) (by omega)
      clear hst hgr htne hg' hgood hsz3
      go_wp2
      go_loopg [9, 10] (r.length + 1) (fun m ov av w5 => ∃ j a : Nat, ov = .int .i64 j ∧ av = .int .u32 a ∧ Hid (m + j = r.length + 1) ∧ Hid (j ≤ r.length) ∧ Hid (a < 16 ^ j) ∧ w5 = wr)
      case atStart => exact ⟨0, 0, rfl, rfl, rfl, Nat.zero_le _, (show 0 < 16 ^ 0 by decide), rfl⟩
      case round =>
        obtain ⟨j, a, rfl, rfl, hm2, hj, ha, rfl⟩ := hrel
        by_cases hjr : j < r.length
        · obtain ⟨hjs, hx⟩ := HS.out j hjr
          have hlt2 : decide ((j : Int) < (s.size : Int)) = true := by simp; omega
          have b28 : decide ((j : Int) > 3) = false := decide_eq_false (by omega)
          have ha4 : a < 4096 := pow6 a j ha.out (by omega)
          have hc256 : (s[j]'hjs).toNat < 256 := (s[j]'hjs).toNat_lt
          have ha6 := pow6s a j ha.out
          rcases hx with ⟨c1, c2⟩ | ⟨c1, c2⟩
          · have b1 : decide (((s[j]'hjs).toNat : Int) ≥ 48) = true := by simp; omega
            have b2 : decide (((s[j]'hjs).toNat : Int) ≤ 57) = true := by simp; omega
            go_wp2
            go_roundg (gk - 1)
            case measure => have := hm2.out; omega
            case rel =>
              have e1 := hm2.out
              exact ⟨j + 1, a * 16 + ((s[j]'hjs).toNat - 48), by go_num, by go_num, show _ = _ by omega, show _ ≤ _ by omega, ha6 _ (by omega), rfl⟩
          · have b1 : decide (((s[j]'hjs).toNat : Int) ≥ 48) = true := by simp; omega
            have b2 : decide (((s[j]'hjs).toNat : Int) ≤ 57) = false := by simp; omega
            have b3 : decide (((s[j]'hjs).toNat : Int) ≥ 97) = true := by simp; omega
            have b4 : decide (((s[j]'hjs).toNat : Int) ≤ 102) = true := by simp; omega
            go_wp2
            go_roundg (gk - 1)
            case measure => have := hm2.out; omega
            case rel =>
              have e1 := hm2.out
              exact ⟨j + 1, a * 16 + ((s[j]'hjs).toNat - 97 + 10), by go_num, by go_num, show _ = _ by omega, show _ ≤ _ by omega, ha6 _ (by omega), rfl⟩
        · have hjr2 : j = r.length := Nat.le_antisymm hj.out (Nat.le_of_not_lt hjr)
          subst hjr2
          have b0 : ((r.length : Int) == 0) = false := beq_eq_false_iff_ne.2 (by omega)
          have i0 : (0 : Int) ≤ i := by omega
          have i1 : (0 : Int) ≤ (i : Int) + 1 := by omega
          have i2 : (i : Int) < 16 := by omega
          have i3 : (i : Int) + 1 < 16 := by omega
          have i4 : ((i : Int) + 1).toNat = i + 1 := by omega
          have hlt2 : decide ((r.length : Int) < (s.size : Int)) = true := by simp; omega
          go_wp2
          go_roundg (n2 + 1)
          case measure => have := hm.out; omega
          case rel => exact ⟨n2, s3, i + 2, ((i + 2 : Nat) : Int), rfl, by go_num, by go_num, rfl, by rw [← hT.out] at HG'; exact HG'.out, HT2.out, (hrow.out.set i (by omega) _).set (i + 1) (by omega) _, (hbel.out.setc _ _).setc _ _⟩

theorem cut6_pre (s : ByteArray) (t : List UInt8) (h : s.data.toList = 58 :: 58 :: t) (ht : t ≠ []) (hl : s.size ≤ 100) :
    ∃ (s2 : ByteArray) (g0 : 0 < s.size) (g1 : 1 < s.size) (_ : 0 < s2.size), ((((s[0]'g0).toNat : Int) == 58) = true) ∧ ((((s[1]'g1).toNat : Int) == 58) = true) ∧ s.extract 2 s.size = s2 ∧ Hid (s2.data.toList = t) ∧ Hid (s2.size ≤ 100) := by
  have g1 : 1 < s.size := by rw [Lib.size_eq, h]; simp
  have g0 : 0 < s.size := by omega
  have e2 : (s.extract 2 s.size).data.toList = t := drop6 s [58, 58] t h
  refine ⟨_, g0, g1, ?_, ?_, ?_, rfl, e2, ?_⟩
  · rw [Lib.size_eq, e2]; exact List.length_pos_iff.2 ht
  · have := byte6_at s [] _ 58 h g0
    simpa using this
  · have := byte6_at s [58] _ 58 h g1
    simpa using this
  · show _ ≤ _
    rw [Lib.size_eq, h] at hl
    rw [Lib.size_eq, e2]; simp at hl; omega

set_option maxRecDepth 100000 in
set_option maxHeartbeats 16000000 in
theorem parse6_pre (s0 : ByteArray) (n : Nat) (t0 : List UInt8) (h0 : s0.data.toList = 58 :: 58 :: t0) (ht0 : t0 ≠ []) (hg : G6.Good n t0 0 0) (hno : (37 : UInt8) ∉ s0.data.toList) (hl100 : s0.size ≤ 100) (w : World) :
    Calls Tryz.prog 94 #[.string s0] w fun e w' => (∃ x0 x1 : Int, e = .returned (.tuple #[.agg #[.int .u64 x0, .int .u64 x1, .bool true, .bool true, .string ⟨#[]⟩], .nilIface])) ∧ Below w.heap.size w w' := by
  have HG := Lib.hid hg
  obtain ⟨s00, g0, g1, g2, b0, b1, hs00, HT0, HS00⟩ := cut6_pre s0 t0 h0 ht0 hl100
  have p2 : decide ((s0.size : Int) ≥ 2) = true := decide_eq_true (by omega)
  clear hg ht0 h0
  have HV : Hid (Below w.heap.size w ((w.alloc (.cells #[.int .u64 0, .int .u64 0, .bool false, .bool false, .string ⟨#[]⟩] 125)).alloc (.cells #[.int .u8 0, .int .u8 0, .int .u8 0, .int .u8 0, .int .u8 0, .int .u8 0, .int .u8 0, .int .u8 0, .int .u8 0, .int .u8 0, .int .u8 0, .int .u8 0, .int .u8 0, .int .u8 0, .int .u8 0, .int .u8 0] 192))) := ((Below.refl _ _).alloc (Nat.le_refl _) _).alloc (by simp) _
  have r0 : ((w.alloc (.cells #[.int .u64 0, .int .u64 0, .bool false, .bool false, .string ⟨#[]⟩] 125)).alloc (.cells #[.int .u8 0, .int .u8 0, .int .u8 0, .int .u8 0, .int .u8 0, .int .u8 0, .int .u8 0, .int .u8 0, .int .u8 0, .int .u8 0, .int .u8 0, .int .u8 0, .int .u8 0, .int .u8 0, .int .u8 0, .int .u8 0] 192)).heap[w.heap.size]? = some (.cells #[.int .u64 0, .int .u64 0, .bool false, .bool false, .string ⟨#[]⟩] 125 (0, 0)) := by
    rw [Below.heap_alloc _ _ _ (by simp)]; exact heap_alloc_new _ _
  have r1 : Row16 ((w.alloc (.cells #[.int .u64 0, .int .u64 0, .bool false, .bool false, .string ⟨#[]⟩] 125)).alloc (.cells #[.int .u8 0, .int .u8 0, .int .u8 0, .int .u8 0, .int .u8 0, .int .u8 0, .int .u8 0, .int .u8 0, .int .u8 0, .int .u8 0, .int .u8 0, .int .u8 0, .int .u8 0, .int .u8 0, .int .u8 0, .int .u8 0] 192)) (w.heap.size + 1) := by
    have h := heap_alloc_new (w.alloc (.cells #[.int .u64 0, .int .u64 0, .bool false, .bool false, .string ⟨#[]⟩] 125)) (.cells #[.int .u8 0, .int .u8 0, .int .u8 0, .int .u8 0, .int .u8 0, .int .u8 0, .int .u8 0, .int .u8 0, .int .u8 0, .int .u8 0, .int .u8 0, .int .u8 0, .int .u8 0, .int .u8 0, .int .u8 0, .int .u8 0] 192)
    refine ⟨List.replicate 16 (.int .u8 0), ?_, rfl, fun k hk => ⟨0, List.getElem?_replicate_of_lt hk⟩⟩
    simpa using h
  have Hi := Lib.hid (indexByte_miss s0 hno hl100)
  have R0 := Lib.hid r0
  have R1 := Lib.hid r1
  have na : w.heap.size ≠ w.heap.size + 1 := by omega
  clear hno r0 r1
  go_enter Tryz.func94, Tryz.ntmps94
  go_wp2_with fail
  refine (Hi.out _).mono ?_
  rintro e w2 ⟨rfl, rfl⟩
  go_wp2_with fail
  generalize ((w.alloc (.cells #[.int .u64 0, .int .u64 0, .bool false, .bool false, .string ⟨#[]⟩] 125)).alloc (.cells #[.int .u8 0, .int .u8 0, .int .u8 0, .int .u8 0, .int .u8 0, .int .u8 0, .int .u8 0, .int .u8 0, .int .u8 0, .int .u8 0, .int .u8 0, .int .u8 0, .int .u8 0, .int .u8 0, .int .u8 0, .int .u8 0] 192)) = V at *
  have l0 := (Array.getElem?_eq_some_iff.1 R0.out).1
  have l1 : w.heap.size + 1 < V.heap.size := by obtain ⟨l, hl, -⟩ := R1.out; exact (Array.getElem?_eq_some_iff.1 hl).1
  go_loopg [4, 6, 8] (n + 1) (fun m sv iv ev wr => ∃ (n' : Nat) (s : ByteArray) (i : Nat) (e : Int), sv = .string s ∧ iv = .int .i64 i ∧ ev = .int .i64 e ∧ Hid (m = n' + 1) ∧ Hid (G6.Good n' s.data.toList i e) ∧ Hid (s.size ≤ 100) ∧ Hid (Row16 wr (w.heap.size + 1)) ∧ Hid (BelowX V.heap.size (w.heap.size + 1) V wr))
  case atStart => exact ⟨n, s00, 0, 0, rfl, rfl, rfl, rfl, by rw [← HT0.out] at HG; exact HG.out, HS00.out, R1.out, BelowX.refl _ _ _⟩
  case round =>
    obtain ⟨n', s, i, e, rfl, rfl, rfl, hm, hgood, hs100, hrow, hbel⟩ := hrel
    cases n' with
    | zero => exact hgood.out.elim
    | succ n2 =>
    rcases hgood.out with ⟨h0, hgr, he0, hei, hi14⟩ | ⟨r, t, hst, hgr, htc, hi12, hg'⟩ | ⟨r, t, hst, hgr, htne, he1, hi12, hg'⟩
    · -- the last group
      have hlt : decide ((i : Int) < 16) = true := decide_eq_true (by omega)
      subst h0
      obtain ⟨r, hr⟩ : ∃ r, r = s.data.toList := ⟨_, rfl⟩
      rw [← hr] at hgr
      have hst : s.data.toList = r ++ [] := by rw [List.append_nil]; exact hr.symm
      have HS : Hid (∀ j (hj : j < r.length), ∃ hjs : j < s.size, G6.hex (s[j]'hjs)) := fun j hj => byte6 s r _ hst hgr j hj
      have hrl : s.size = r.length := by rw [Lib.size_eq, hr]
      obtain ⟨s1, hs1, hz⟩ : ∃ s1, s.extract r.length s.size = s1 ∧ (((s1.size : Nat) : Int) == 0) = true := ⟨_, rfl, by rw [Lib.size_eq, drop6 s r [] hst]; rfl⟩
      have r4 := hgr.2.2
      have r1 := hgr.2.1
      obtain ⟨e', rfl⟩ : ∃ e' : Nat, e = (e' : Int) := ⟨e.toNat, by omega⟩
      have hlt3 : decide ((r.length : Int) < (s.size : Int)) = false := decide_eq_false (by omega)
      have hz2 : (((s1.size : Nat) : Int) != 0) = false := by rw [bne, hz]; rfl
      have hb1 : decide ((i : Int) + 2 < 16) = true := decide_eq_true (by omega)
      have hb2 : decide ((e' : Int) < 0) = false := decide_eq_false (by omega)
      have Hrl := Lib.hid hrl
      have hle : r.length ≤ s.size := Nat.le_of_eq hrl.symm
      obtain ⟨⟨x0, f0⟩, f1⟩ := hrow.out.cell i (by omega)
      obtain ⟨⟨x1, f2⟩, f3⟩ := hrow.out.cell (i + 1) (by omega)
      clear hst hgr hgood hr hrl
      go_wp2
      go_loopg [9, 10] (r.length + 1) (fun m ov av w5 => ∃ j a : Nat, ov = .int .i64 j ∧ av = .int .u32 a ∧ Hid (m + j = r.length + 1) ∧ Hid (j ≤ r.length) ∧ Hid (a < 16 ^ j) ∧ w5 = wr)
      case atStart => exact ⟨0, 0, rfl, rfl, rfl, Nat.zero_le _, (show 0 < 16 ^ 0 by decide), rfl⟩
      case round =>
        obtain ⟨j, a, rfl, rfl, hm2, hj, ha, rfl⟩ := hrel
        by_cases hjr : j < r.length
        · obtain ⟨hjs, hx⟩ := HS.out j hjr
          have hlt2 : decide ((j : Int) < (s.size : Int)) = true := decide_eq_true (by omega)
          have b28 : decide ((j : Int) > 3) = false := decide_eq_false (by omega)
          have ha4 : a < 4096 := pow6 a j ha.out (by omega)
          have hc256 : (s[j]'hjs).toNat < 256 := (s[j]'hjs).toNat_lt
          have ha6 := pow6s a j ha.out
          rcases hx with ⟨c1, c2⟩ | ⟨c1, c2⟩
          · have b1 : decide (((s[j]'hjs).toNat : Int) ≥ 48) = true := by simp; omega
            have b2 : decide (((s[j]'hjs).toNat : Int) ≤ 57) = true := by simp; omega
            go_wp2
            go_roundg (gk - 1)
            case measure => have := hm2.out; omega
            case rel =>
              have e1 := hm2.out
              exact ⟨j + 1, a * 16 + ((s[j]'hjs).toNat - 48), by go_num, by go_num, show _ = _ by omega, show _ ≤ _ by omega, ha6 _ (by omega), rfl⟩
          · have b1 : decide (((s[j]'hjs).toNat : Int) ≥ 48) = true := by simp; omega
            have b2 : decide (((s[j]'hjs).toNat : Int) ≤ 57) = false := by simp; omega
            have b3 : decide (((s[j]'hjs).toNat : Int) ≥ 97) = true := by simp; omega
            have b4 : decide (((s[j]'hjs).toNat : Int) ≤ 102) = true := by simp; omega
            go_wp2
            go_roundg (gk - 1)
            case measure => have := hm2.out; omega
            case rel =>
              have e1 := hm2.out
              exact ⟨j + 1, a * 16 + ((s[j]'hjs).toNat - 97 + 10), by go_num, by go_num, show _ = _ by omega, show _ ≤ _ by omega, ha6 _ (by omega), rfl⟩
        · have hjr2 : j = r.length := Nat.le_antisymm hj.out (Nat.le_of_not_lt hjr)
          subst hjr2
          have b0 : ((r.length : Int) == 0) = false := beq_eq_false_iff_ne.2 (by omega)
          have i0 : (0 : Int) ≤ i := by omega
          have i1 : (0 : Int) ≤ (i : Int) + 1 := by omega
          have i2 : (i : Int) < 16 := by omega
          have i3 : (i : Int) + 1 < 16 := by omega
          have i4 : ((i : Int) + 1).toNat = i + 1 := by omega
          have hlt2 : decide ((r.length : Int) < (s.size : Int)) = false := decide_eq_false (by have := Hrl.out; omega)
          have hnl : ¬ r.length < s.size := Nat.not_lt_of_le (Nat.le_of_eq Hrl.out)
          go_wp2
          have Hd : Hid (i + 2 + (14 - i) = 16) := (show _ = _ by omega)
          obtain ⟨d, hd⟩ : ∃ d : Nat, d = 14 - i := ⟨_, rfl⟩
          have hd2 : (16 : Int) - ((i : Int) + 2) = (d : Int) := by omega
          rw [← hd] at Hd
          rw [hd2]
          clear hd hd2
          go_loopg [15] (i + 3 - e') (fun m jv w7 => ∃ (k : Nat) (z : Int), jv = .int .i64 z ∧ Hid (z = (k : Int) - 1) ∧ Hid (m + e' = k + 1) ∧ Hid (e' ≤ k) ∧ Hid (k ≤ i + 2) ∧ Hid (Row16 w7 (w.heap.size + 1)) ∧ Hid (BelowX V.heap.size (w.heap.size + 1) V w7))
          case atStart => exact ⟨i + 2, _, rfl, show _ = _ by omega, show _ = _ by omega, show _ ≤ _ by omega, Nat.le_refl _, (hrow.out.set i (by omega) _).set (i + 1) (by omega) _, (hbel.out.setc _ _).setc _ _⟩
          case round =>
            obtain ⟨k, z, rfl, hz, hm7, hk, hk2, hrow7, hbel7⟩ := hrel
            by_cases hke : k = e'
            · have dk : decide (z ≥ (e' : Int)) = false := decide_eq_false (by have := hz.out; omega)
              have e0 : (0 : Int) ≤ (e' : Int) := by omega
              have e1 : (e' : Int) ≤ 16 := by omega
              have e2 : (e' : Int) ≤ (e' : Int) + (d : Int) := by omega
              have e3 : (e' : Int) + (d : Int) ≤ 16 := by have := Hd.out; omega
              have e4 : ((e' : Int) + (d : Int)).toNat = e' + d := by omega
              have e5 : e' + d ≤ 16 := by have := Hd.out; omega
              have hdp : 0 < d := by have := Hd.out; omega
              obtain ⟨cur, hcur, hcl, hcc⟩ := hrow7.out
              have HC : Hid (wr.heap[w.heap.size + 1]? = some (.cells cur.toArray 192 (0, 0))) := hcur
              have Hfit : Hid (e' + d ≤ cur.length) := (show _ ≤ _ by rw [hcl]; exact e5)
              have Hdp := Lib.hid hdp
              have HL : Hid ((splice cur e' (List.replicate d (.int .u8 0))).length = 16 ∧ ∀ k, k < 16 → ∃ x : Int, (splice cur e' (List.replicate d (.int .u8 0)))[k]? = some (.int .u8 x)) := splice16 cur e' d hcl hcc e5
              have HB7 : Hid (Below w.heap.size w wr) := HV.out.trans (hbel7.out.below (Nat.le_succ _) HV.out.size)
              have R7 : Hid (wr.heap[w.heap.size]? = some (.cells #[.int .u64 0, .int .u64 0, .bool false, .bool false, .string ⟨#[]⟩] 125 (0, 0))) := (hbel7.out.block _ l0 na).trans R0.out
              generalize hLg : splice cur e' (List.replicate d (.int .u8 0)) = L at HL
              have HLg := Lib.hid hLg
              have hi16 : (Tryz.prog.info? 192).map (·.size) = some L.toArray.size := by
                rw [List.size_toArray, HL.out.1]; kernel_rfl
              clear hke hcur hcl hcc hdp hLg
              go_wp2_with (first | ((with_reducible refine wpList_clear_splice rfl (.tmp 269) 91 rfl 5 Tryz.underlying91 (.int .u8 0) (fun _ => by kernel_rfl) rfl rfl (w.heap.size + 1) e' d (16 - e') rfl cur 192 HC.out Hfit.out Hdp.out w.heap.size w HB7.out (Nat.le_succ _) ?_); intro w2 hg2 hbel2 hoth; rw [HLg.out] at hg2) | (with_reducible refine wpList_load_row rfl 192 (.tmp 7) rfl (w.heap.size + 1) rfl 192 L.toArray (0, 0) _ hg2.out Tryz.underlying192 rfl hi16 ?_))
              refine (addrFrom16_any L HL.out.1 HL.out.2 _).mono ?_
              rintro e w3 ⟨⟨z0, z1, rfl⟩, hb3⟩
              have R8 : Hid (w2.heap[w.heap.size]? = some (.cells #[.int .u64 0, .int .u64 0, .bool false, .bool false, .string ⟨#[]⟩] 125 (0, 0))) := (hoth.out _ na).trans R7.out
              have l8 := (Array.getElem?_eq_some_iff.1 R8.out).1
              have R9 := (hb3.block _ l8).trans R8.out
              have HB8 : Hid (Below w.heap.size w w3) := hbel2.trans (hb3.mono hbel2.size)
              go_wp2_with fail
              refine (withZone_any z0 z1 _).mono ?_
              rintro e w4 ⟨rfl, hb4⟩
              have l9 := (Array.getElem?_eq_some_iff.1 R9).1
              have R10 := (hb4.block _ l9).trans R9
              obtain ⟨y0, y1, y2, y3, y4, k0, k1, k2, k3, k4⟩ := five_facts R10
              have HB9 : Hid (Below w.heap.size w w4) := HB8.out.trans (hb4.mono HB8.out.size)
              clear hb4 hb3 R9 R10
              go_wp2_with fail
              (try simp only [Exit.inBlock, Exit.then])
              refine bodyPost_ret (v := .tuple #[.agg #[.int .u64 z0, .int .u64 z1, .bool true, .bool true, .string ⟨#[]⟩], .nilIface]) ?_ rfl ⟨⟨z0, z1, rfl⟩, ((((HB9.out.setCell (Nat.le_refl _) _).setCell (Nat.le_refl _) _).setCell (Nat.le_refl _) _).setCell (Nat.le_refl _) _).setCell (Nat.le_refl _) _⟩
              rw [results_cell_tmp rfl]
              go_simp
            · obtain ⟨k', rfl⟩ : ∃ k', k = k' + 1 := ⟨k - 1, by have := hk.out; omega⟩
              obtain rfl : z = (k' : Int) := by have := hz.out; omega
              have dk : decide ((k' : Int) ≥ (e' : Int)) = true := decide_eq_true (by have := hk.out; omega)
              have q5 : e' ≤ k' := by have := hk.out; omega
              have q0 : (0 : Int) ≤ (k' : Int) + (d : Int) := by omega
              have q1 : (k' : Int) + (d : Int) < 16 := by have := Hd.out; have := hk2.out; omega
              have q2 : ((k' : Int) + (d : Int)).toNat = k' + d := by omega
              have q3 : (0 : Int) ≤ (k' : Int) := by omega
              have q4 : (k' : Int) < 16 := by have := hk2.out; omega
              obtain ⟨⟨x8, f8⟩, f9⟩ := hrow7.out.cell k' (by omega)
              obtain ⟨⟨x6, f6⟩, f7⟩ := hrow7.out.cell (k' + d) (by omega)
              go_wp2
              go_roundg (gk - 1)
              case measure => have := hm7.out; omega
              case rel => exact ⟨k', _, rfl, rfl, show _ = _ by have := hm7.out; omega, show _ ≤ _ by have := hk.out; omega, show _ ≤ _ by have := hk2.out; omega, hrow7.out.set _ (by omega) _, hbel7.out.setc _ _⟩
    · -- a colon
      have hlt : decide ((i : Int) < 16) = true := decide_eq_true (by omega)
      obtain ⟨s1, s2, hs1, hs2, g1, g2, k1, k2, hT, hsz1, hsz3⟩ := cut6_one s r t hst htc
      have HS : Hid (∀ j (hj : j < r.length), ∃ hjs : j < s.size, G6.hex (s[j]'hjs)) := fun j hj => byte6 s r _ hst hgr j hj
      have hrl : r.length < s.size := by rw [Lib.size_eq, hst]; simp
      have hc : ((s[r.length]'hrl).toNat : Int) = 58 := byte6_at s r t 58 hst hrl
      have r4 := hgr.2.2
      have r1 := hgr.2.1
      have HG' := Lib.hid hg'
      have HT2 : Hid (s2.size ≤ 100) := Nat.le_trans hsz3 hs100.out
      obtain ⟨⟨x0, f0⟩, f1⟩ := hrow.out.cell i (by omega)
      obtain ⟨⟨x1, f2⟩, f3⟩ := hrow.out.cell (i + 1) (by omega)
      clear hst hgr htc hg' hgood hsz3
      go_wp2
      go_loopg [9, 10] (r.length + 1) (fun m ov av w5 => ∃ j a : Nat, ov = .int .i64 j ∧ av = .int .u32 a ∧ Hid (m + j = r.length + 1) ∧ Hid (j ≤ r.length) ∧ Hid (a < 16 ^ j) ∧ w5 = wr)
      case atStart => exact ⟨0, 0, rfl, rfl, rfl, Nat.zero_le _, (show 0 < 16 ^ 0 by decide), rfl⟩
      case round =>
        obtain ⟨j, a, rfl, rfl, hm2, hj, ha, rfl⟩ := hrel
        by_cases hjr : j < r.length
        · obtain ⟨hjs, hx⟩ := HS.out j hjr
          have hlt2 : decide ((j : Int) < (s.size : Int)) = true := by simp; omega
          have b28 : decide ((j : Int) > 3) = false := decide_eq_false (by omega)
          have ha4 : a < 4096 := pow6 a j ha.out (by omega)
          have hc256 : (s[j]'hjs).toNat < 256 := (s[j]'hjs).toNat_lt
          have ha6 := pow6s a j ha.out
          rcases hx with ⟨c1, c2⟩ | ⟨c1, c2⟩
          · have b1 : decide (((s[j]'hjs).toNat : Int) ≥ 48) = true := by simp; omega
            have b2 : decide (((s[j]'hjs).toNat : Int) ≤ 57) = true := by simp; omega
            go_wp2
            go_roundg (gk - 1)
            case measure => have := hm2.out; omega
            case rel =>
              have e1 := hm2.out
              exact ⟨j + 1, a * 16 + ((s[j]'hjs).toNat - 48), by go_num, by go_num, show _ = _ by omega, show _ ≤ _ by omega, ha6 _ (by omega), rfl⟩
          · have b1 : decide (((s[j]'hjs).toNat : Int) ≥ 48) = true := by simp; omega
            have b2 : decide (((s[j]'hjs).toNat : Int) ≤ 57) = false := by simp; omega
            have b3 : decide (((s[j]'hjs).toNat : Int) ≥ 97) = true := by simp; omega
            have b4 : decide (((s[j]'hjs).toNat : Int) ≤ 102) = true := by simp; omega
            go_wp2
            go_roundg (gk - 1)
            case measure => have := hm2.out; omega
            case rel =>
              have e1 := hm2.out
              exact ⟨j + 1, a * 16 + ((s[j]'hjs).toNat - 97 + 10), by go_num, by go_num, show _ = _ by omega, show _ ≤ _ by omega, ha6 _ (by omega), rfl⟩
        · have hjr2 : j = r.length := Nat.le_antisymm hj.out (Nat.le_of_not_lt hjr)
          subst hjr2
          have b0 : ((r.length : Int) == 0) = false := beq_eq_false_iff_ne.2 (by omega)
          have i0 : (0 : Int) ≤ i := by omega
          have i1 : (0 : Int) ≤ (i : Int) + 1 := by omega
          have i2 : (i : Int) < 16 := by omega
          have i3 : (i : Int) + 1 < 16 := by omega
          have i4 : ((i : Int) + 1).toNat = i + 1 := by omega
          have hlt2 : decide ((r.length : Int) < (s.size : Int)) = true := by simp; omega
          go_wp2
          go_roundg (n2 + 1)
          case measure => have := hm.out; omega
          case rel => exact ⟨n2, s2, i + 2, e, rfl, by go_num, rfl, rfl, by rw [← hT.out] at HG'; exact HG'.out, HT2.out, (hrow.out.set i (by omega) _).set (i + 1) (by omega) _, (hbel.out.setc _ _).setc _ _⟩
    · -- two colons
      have hlt : decide ((i : Int) < 16) = true := decide_eq_true (by omega)
      subst he1
      obtain ⟨s1, s2, s3, hs1, hs2, hs3, g1, g2, g3, k1, k2, hT, hsz1, hsz3⟩ := cut6_two s r t hst htne
      have HS : Hid (∀ j (hj : j < r.length), ∃ hjs : j < s.size, G6.hex (s[j]'hjs)) := fun j hj => byte6 s r _ hst hgr j hj
      have hrl : r.length < s.size := by rw [Lib.size_eq, hst]; simp
      have hc : ((s[r.length]'hrl).toNat : Int) = 58 := byte6_at s r _ 58 hst hrl
      have r4 := hgr.2.2
      have r1 := hgr.2.1
      have HG' := Lib.hid hg'
      have HT2 : Hid (s3.size ≤ 100) := Nat.le_trans hsz3 hs100.out
      obtain ⟨⟨x0, f0⟩, f1⟩ := hrow.out.cell i (by omega)
      obtain ⟨⟨x1, f2⟩, f3⟩ := hrow.out.cell (i + 1) (by omega)
      clear hst hgr htne hg' hgood hsz3
      go_wp2
      go_loopg [9, 10] (r.length + 1) (fun m ov av w5 => ∃ j a : Nat, ov = .int .i64 j ∧ av = .int .u32 a ∧ Hid (m + j = r.length + 1) ∧ Hid (j ≤ r.length) ∧ Hid (a < 16 ^ j) ∧ w5 = wr)
      case atStart => exact ⟨0, 0, rfl, rfl, rfl, Nat.zero_le _, (show 0 < 16 ^ 0 by decide), rfl⟩
      case round =>
        obtain ⟨j, a, rfl, rfl, hm2, hj, ha, rfl⟩ := hrel
        by_cases hjr : j < r.length
        · obtain ⟨hjs, hx⟩ := HS.out j hjr
          have hlt2 : decide ((j : Int) < (s.size : Int)) = true := by simp; omega
          have b28 : decide ((j : Int) > 3) = false := decide_eq_false (by omega)
          have ha4 : a < 4096 := pow6 a j ha.out (by omega)
          have hc256 : (s[j]'hjs).toNat < 256 := (s[j]'hjs).toNat_lt
          have ha6 := pow6s a j ha.out
          rcases hx with ⟨c1, c2⟩ | ⟨c1, c2⟩
          · have b1 : decide (((s[j]'hjs).toNat : Int) ≥ 48) = true := by simp; omega
            have b2 : decide (((s[j]'hjs).toNat : Int) ≤ 57) = true := by simp; omega
            go_wp2
            go_roundg (gk - 1)
            case measure => have := hm2.out; omega
            case rel =>
              have e1 := hm2.out
              exact ⟨j + 1, a * 16 + ((s[j]'hjs).toNat - 48), by go_num, by go_num, show _ = _ by omega, show _ ≤ _ by omega, ha6 _ (by omega), rfl⟩
          · have b1 : decide (((s[j]'hjs).toNat : Int) ≥ 48) = true := by simp; omega
            have b2 : decide (((s[j]'hjs).toNat : Int) ≤ 57) = false := by simp; omega
            have b3 : decide (((s[j]'hjs).toNat : Int) ≥ 97) = true := by simp; omega
            have b4 : decide (((s[j]'hjs).toNat : Int) ≤ 102) = true := by simp; omega
            go_wp2
            go_roundg (gk - 1)
            case measure => have := hm2.out; omega
            case rel =>
              have e1 := hm2.out
              exact ⟨j + 1, a * 16 + ((s[j]'hjs).toNat - 97 + 10), by go_num, by go_num, show _ = _ by omega, show _ ≤ _ by omega, ha6 _ (by omega), rfl⟩
        · have hjr2 : j = r.length := Nat.le_antisymm hj.out (Nat.le_of_not_lt hjr)
          subst hjr2
          have b0 : ((r.length : Int) == 0) = false := beq_eq_false_iff_ne.2 (by omega)
          have i0 : (0 : Int) ≤ i := by omega
          have i1 : (0 : Int) ≤ (i : Int) + 1 := by omega
          have i2 : (i : Int) < 16 := by omega
          have i3 : (i : Int) + 1 < 16 := by omega
          have i4 : ((i : Int) + 1).toNat = i + 1 := by omega
          have hlt2 : decide ((r.length : Int) < (s.size : Int)) = true := by simp; omega
          go_wp2
          go_roundg (n2 + 1)
          case measure => have := hm.out; omega
          case rel => exact ⟨n2, s3, i + 2, ((i + 2 : Nat) : Int), rfl, by go_num, by go_num, rfl, by rw [← hT.out] at HG'; exact HG'.out, HT2.out, (hrow.out.set i (by omega) _).set (i + 1) (by omega) _, (hbel.out.setc _ _).setc _ _⟩
end Go.Proofs.YtdmggcbbfljciaaGreatDoor

/- netip.ParseAddr at the four texts of the sixth version. -/
namespace Go.Proofs.YtdmggcbbfljciaaGreatDoor
open Go.RowKit Go.Lib

set_option maxRecDepth 100000 in
set_option maxHeartbeats 4000000 in
theorem parse6_only (s0 : ByteArray) (h0 : s0.data.toList = [58, 58]) (w : World) :
    Calls Tryz.prog 94 #[.string s0] w fun e w' => (∃ x0 x1 : Int, e = .returned (.tuple #[.agg #[.int .u64 x0, .int .u64 x1, .bool true, .bool true, .string ⟨#[]⟩], .nilIface])) ∧ Below w.heap.size w w' := by
  have hno : (37 : UInt8) ∉ s0.data.toList := by rw [h0]; decide
  have hl100 : s0.size ≤ 100 := by rw [Lib.size_eq, h0]; decide
  have g1 : 1 < s0.size := by rw [Lib.size_eq, h0]; decide
  have g0 : 0 < s0.size := by omega
  have b0 : ((((s0[0]'g0).toNat : Int) == 58) = true) := by
    have := byte6_at s0 [] _ 58 h0 g0
    simpa using this
  have b1 : ((((s0[1]'g1).toNat : Int) == 58) = true) := by
    have := byte6_at s0 [58] _ 58 h0 g1
    simpa using this
  have p2 : decide ((s0.size : Int) ≥ 2) = true := decide_eq_true (by omega)
  have e2 : (s0.extract 2 s0.size).data.toList = [] := drop6 s0 [58, 58] [] (by rw [h0]; rfl)
  obtain ⟨s00, hs00, hz⟩ : ∃ s1, s0.extract 2 s0.size = s1 ∧ (((s1.size : Nat) : Int) == 0) = true := ⟨_, rfl, by rw [Lib.size_eq, e2]; rfl⟩
  have HV : Hid (Below w.heap.size w ((w.alloc (.cells #[.int .u64 0, .int .u64 0, .bool false, .bool false, .string ⟨#[]⟩] 125)).alloc (.cells #[.int .u8 0, .int .u8 0, .int .u8 0, .int .u8 0, .int .u8 0, .int .u8 0, .int .u8 0, .int .u8 0, .int .u8 0, .int .u8 0, .int .u8 0, .int .u8 0, .int .u8 0, .int .u8 0, .int .u8 0, .int .u8 0] 192))) := ((Below.refl _ _).alloc (Nat.le_refl _) _).alloc (by simp) _
  have r0 : ((w.alloc (.cells #[.int .u64 0, .int .u64 0, .bool false, .bool false, .string ⟨#[]⟩] 125)).alloc (.cells #[.int .u8 0, .int .u8 0, .int .u8 0, .int .u8 0, .int .u8 0, .int .u8 0, .int .u8 0, .int .u8 0, .int .u8 0, .int .u8 0, .int .u8 0, .int .u8 0, .int .u8 0, .int .u8 0, .int .u8 0, .int .u8 0] 192)).heap[w.heap.size]? = some (.cells #[.int .u64 0, .int .u64 0, .bool false, .bool false, .string ⟨#[]⟩] 125 (0, 0)) := by
    rw [Below.heap_alloc _ _ _ (by simp)]; exact heap_alloc_new _ _
  have Hi := Lib.hid (indexByte_miss s0 hno hl100)
  have R0 := Lib.hid r0
  clear hno r0 h0 e2
  go_enter Tryz.func94, Tryz.ntmps94
  go_wp2_with fail
  refine (Hi.out _).mono ?_
  rintro e w2 ⟨rfl, rfl⟩
  go_wp2_with fail
  generalize ((w.alloc (.cells #[.int .u64 0, .int .u64 0, .bool false, .bool false, .string ⟨#[]⟩] 125)).alloc (.cells #[.int .u8 0, .int .u8 0, .int .u8 0, .int .u8 0, .int .u8 0, .int .u8 0, .int .u8 0, .int .u8 0, .int .u8 0, .int .u8 0, .int .u8 0, .int .u8 0, .int .u8 0, .int .u8 0, .int .u8 0, .int .u8 0] 192)) = V at *
  refine (unspec_any _).mono ?_
  rintro e w3 ⟨rfl, hb3⟩
  have l8 := (Array.getElem?_eq_some_iff.1 R0.out).1
  have R9 := (hb3.block _ l8).trans R0.out
  have HB8 : Hid (Below w.heap.size w w3) := HV.out.trans (hb3.mono HV.out.size)
  go_wp2_with fail
  refine (withZone_any 0 0 _).mono ?_
  rintro e w4 ⟨rfl, hb4⟩
  have l9 := (Array.getElem?_eq_some_iff.1 R9).1
  have R10 := (hb4.block _ l9).trans R9
  obtain ⟨y0, y1, y2, y3, y4, k0, k1, k2, k3, k4⟩ := five_facts R10
  have HB9 : Hid (Below w.heap.size w w4) := HB8.out.trans (hb4.mono HB8.out.size)
  clear hb4 hb3 R9 R10
  go_wp2_with fail
  (try simp only [Exit.inBlock, Exit.then])
  refine bodyPost_ret (v := .tuple #[.agg #[.int .u64 0, .int .u64 0, .bool true, .bool true, .string ⟨#[]⟩], .nilIface]) ?_ rfl ⟨⟨0, 0, rfl⟩, ((((HB9.out.setCell (Nat.le_refl _) _).setCell (Nat.le_refl _) _).setCell (Nat.le_refl _) _).setCell (Nat.le_refl _) _).setCell (Nat.le_refl _) _⟩
  rw [results_cell_tmp rfl]
  go_simp

theorem parse6_ok (s : ByteArray) (h : sixL s.data.toList) (w : World) :
    Calls Tryz.prog 94 #[.string s] w fun e w' => (∃ x0 x1 : Int, e = .returned (.tuple #[.agg #[.int .u64 x0, .int .u64 x1, .bool true, .bool true, .string ⟨#[]⟩], .nilIface])) ∧ Below w.heap.size w w' := by
  have hno := (six_no _ h).2.2.1
  have hl := (six_no _ h).2.2.2.2.2
  rw [← Lib.size_eq] at hl
  rcases h with h | h | h | h
  · exact parse6_pre s 1 [49] h (by simp) G6.good1 hno (by omega) w
  · exact parse6_only s h w
  · exact parse6_mid s 3 (by rw [h]; exact G6.good2) hno (by omega) (by rw [Lib.size_eq, h]; decide) (by rw [h]; decide) w
  · exact parse6_mid s 2 (by rw [h]; exact G6.good3) hno (by omega) (by rw [Lib.size_eq, h]; decide) (by rw [h]; decide) w

theorem six_colon (l : List UInt8) (h : sixL l) : (58 : UInt8) ∈ l := by
  revert l; exact six_cases (by decide) (by decide) (by decide) (by decide)

set_option maxRecDepth 100000 in
set_option maxHeartbeats 4000000 in
theorem parseAddr_6 (s : ByteArray) (h : sixL s.data.toList) : AddrOk s true := by
  intro w
  have HL : Hid (s.size + 0 = s.data.toList.length) := Lib.size_eq s
  have hsz : s.size ≤ 11 := by rw [Lib.size_eq]; exact (six_no _ h).2.2.2.2.2
  have Hp := Lib.hid (parse6_ok s h)
  have H58 := Lib.hid (six_colon _ h)
  have H46 := Lib.hid (six_no _ h).2.2.2.1
  have H37 := Lib.hid (six_no _ h).2.2.1
  have HV : Hid (Below w.heap.size w (w.alloc (.cells #[.int .u64 0, .int .u64 0, .bool false, .bool false, .string ⟨#[]⟩] 125))) := (Below.refl _ _).alloc (Nat.le_refl _) _
  have HR := Lib.hid (heap_alloc_new w (.cells #[.int .u64 0, .int .u64 0, .bool false, .bool false, .string ⟨#[]⟩] 125))
  clear h
  go_enter Tryz.func65, Tryz.ntmps65
  go_wp2
  generalize (w.alloc (.cells #[.int .u64 0, .int .u64 0, .bool false, .bool false, .string ⟨#[]⟩] 125)) = V at *
  go_loopg [4] (s.size + 1) (fun m iv wr => ∃ i : Nat, iv = .int .i64 i ∧ Hid (m + i = s.size + 1) ∧ Hid (i ≤ s.size) ∧ Hid (∀ j, j < i → (s.data.toList.getD j 0).toNat ≠ 58) ∧ wr = V)
  case atStart => exact ⟨0, rfl, rfl, Nat.zero_le _, fun j hj => absurd hj (Nat.not_lt_zero j), rfl⟩
  case round =>
    obtain ⟨i, rfl, hm, hi, hno, rfl⟩ := hrel
    by_cases hin : i < s.size
    · have hlt : decide ((i : Int) < (s.size : Int)) = true := by simp; omega
      have Hx : Hid ((s.data.toList.getD i 0).toNat = (s[i]'hin).toNat) := (byte_get s i hin).symm
      have hil : i < s.data.toList.length := by rw [← HL.out]; exact hin
      have hmem : s.data.toList.getD i 0 ∈ s.data.toList := by
        rw [List.getD, List.getElem?_eq_getElem hil, Option.getD_some]; exact List.getElem_mem hil
      have n46 : (s[i]'hin).toNat ≠ 46 := fun e => H46.out (by
        have e2 : s.data.toList.getD i 0 = 46 := UInt8.toNat_inj.1 (Hx.out.trans e)
        rw [← e2]; exact hmem)
      have n37 : (s[i]'hin).toNat ≠ 37 := fun e => H37.out (by
        have e2 : s.data.toList.getD i 0 = 37 := UInt8.toNat_inj.1 (Hx.out.trans e)
        rw [← e2]; exact hmem)
      have b1 : (((s[i]'hin).toNat : Int) == 46) = false := beq_eq_false_iff_ne.2 (by omega)
      have b3 : (((s[i]'hin).toNat : Int) == 37) = false := beq_eq_false_iff_ne.2 (by omega)
      by_cases h58 : (s[i]'hin).toNat = 58
      · have b2 : (((s[i]'hin).toNat : Int) == 58) = true := by rw [h58]; rfl
        clear hil hmem n46 n37 h58
        go_wp2_with fail
        refine (Hp.out _).mono ?_
        rintro e w3 ⟨⟨x0, x1, rfl⟩, hb3⟩
        have l2 := (Array.getElem?_eq_some_iff.1 HR.out).1
        have R3 : Hid (w3.heap[w.heap.size]? = some (.cells #[.int .u64 0, .int .u64 0, .bool false, .bool false, .string ⟨#[]⟩] 125 (0, 0))) := (hb3.block _ l2).trans HR.out
        obtain ⟨z0, z1, z2, z3, z4, k0, k1, k2, k3, k4⟩ := five_facts R3.out
        have HB3 : Hid (Below w.heap.size w w3) := HV.out.trans (hb3.mono HV.out.size)
        clear hb3
        go_wp2_with fail
        (try simp only [Exit.inBlock, Exit.then])
        refine bodyPost_ret (v := .tuple #[.agg #[.int .u64 x0, .int .u64 x1, .bool true, .bool true, .string ⟨#[]⟩], .nilIface]) ?_ rfl ⟨⟨x0, x1, rfl⟩, ((((HB3.out.setCell (Nat.le_refl _) _).setCell (Nat.le_refl _) _).setCell (Nat.le_refl _) _).setCell (Nat.le_refl _) _).setCell (Nat.le_refl _) _⟩
        rw [results_cell_tmp rfl]
        go_simp
      · have b2 : (((s[i]'hin).toNat : Int) == 58) = false := beq_eq_false_iff_ne.2 (by omega)
        have Hne : Hid ((s.data.toList.getD i 0).toNat ≠ 58) := (show _ ≠ _ by rw [Hx.out]; exact h58)
        clear hil hmem n46 n37 h58
        go_wp2_with fail
        go_roundg (gk - 1)
        case measure => have := hm.out; have := hi.out; omega
        case rel =>
          have e1 := hm.out
          refine ⟨i + 1, by go_num, show _ = _ by omega, show _ ≤ _ by omega, ?_, rfl⟩
          intro j hj
          by_cases hji : j = i
          · rw [hji]; exact Hne.out
          · exact hno.out j (by omega)
    · exfalso
      have hi2 : i = s.size := by have := hi.out; omega
      obtain ⟨j, hj, hx⟩ := List.getElem_of_mem H58.out
      have := hno.out j (by have := HL.out; omega)
      rw [List.getD, List.getElem?_eq_getElem hj, Option.getD_some, hx] at this
      exact this rfl
end Go.Proofs.YtdmggcbbfljciaaGreatDoor
