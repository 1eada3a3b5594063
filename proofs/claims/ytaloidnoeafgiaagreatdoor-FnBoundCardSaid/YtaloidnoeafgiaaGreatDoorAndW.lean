/- nat.norm, nat.and and (*big.Int).And at a fresh z: the words that both have. -/
import Derived.Test.YtaloidnoeafgiaaGreatDoorLvEq
namespace Go.Proofs.YtaloidnoeafgiaaGreatDoor
open Go.RowKit

set_option maxRecDepth 100000 in
set_option maxHeartbeats 1000000 in
theorem norm_nil (w : World) :
    Calls Tryz.prog 93 #[.slice none 0 0] w fun e w' => e = .returned (.slice none 0 0) ∧ w' = w := by
  go_enter Tryz.func93, Tryz.ntmps93
  go_wp2
  refine wp_loop_rounds 1 ?_
  rw [rounds_succ]
  go_wp2
  go_ret
  exact ⟨rfl, rfl⟩

set_option maxRecDepth 100000 in
set_option maxHeartbeats 2000000 in
theorem norm_any (g cap : Nat) (ws : List Nat) (w : World) (hc : ∀ j, j < ws.length → w.cell? ⟨g, j, none⟩ = some (.int .u64 (ws.getD j 0 : Nat))) (hl : ws.length ≤ 2000) (hcap : ws.length ≤ cap) (hm : cap ≤ maxLen) :
    Calls Tryz.prog 93 #[.slice (some ⟨g, 0, none⟩) ws.length cap] w fun e w' => e = .returned (.slice (some ⟨g, 0, none⟩) (CL.normw ws ws.length).length cap) ∧ Below w.heap.size w w' := by
  obtain ⟨n, hn⟩ : ∃ n, n = ws.length := ⟨_, rfl⟩
  have HN : Hid (n = ws.length) := hn
  have HC : Hid (∀ j, j < ws.length → w.cell? ⟨g, j, none⟩ = some (.int .u64 (ws.getD j 0 : Nat))) := hc
  have hn2 : n ≤ 2000 := by omega
  have hnc : n ≤ cap := by omega
  have hm2 : cap ≤ 9223372036854775807 := by unfold maxLen at hm; omega
  have Hm := Lib.hid hm
  rw [← hn]
  clear hc hn hm hl hcap
  go_enter Tryz.func93, Tryz.ntmps93
  go_wp2
  go_loopg [3] n (fun m iv wr => ∃ i : Nat, iv = .int .i64 i ∧ Hid (m = i) ∧ i ≤ n ∧ Hid (CL.normw ws i = CL.normw ws n) ∧ Hid (Below w.heap.size w wr))
  case atStart => exact ⟨n, rfl, rfl, Nat.le_refl _, rfl, Below.refl _ _⟩
  case round =>
    obtain ⟨i, rfl, hmm, hi, hnw, hbel⟩ := hrel
    by_cases hi0 : 0 < i
    · obtain ⟨k, rfl⟩ : ∃ k, i = k + 1 := ⟨i - 1, by omega⟩
      have c1 := (hbel.out.cell (p := ⟨g, k, none⟩) (World.block_lt_of_cell? w _ (HC.out k (by have := HN.out; omega)))).trans (HC.out k (by have := HN.out; omega))
      obtain ⟨x, hx⟩ : ∃ x, x = ws.getD k 0 := ⟨_, rfl⟩
      rw [← hx] at c1
      have HX : Hid (x = ws.getD k 0) := hx
      have hgt : decide ((0 : Int) < ((k + 1 : Nat) : Int)) = true := decide_eq_true (by omega)
      have ek : ((k + 1 : Nat) : Int) - 1 = (k : Int) := by omega
      have k0 : (0 : Int) ≤ k := by omega
      have kn : (k : Int) < n := by omega
      clear hx
      by_cases hx0 : x = 0
      · subst hx0
        have Hn : Hid (CL.normw ws k = CL.normw ws n) := by
          show _ = _
          rw [← hnw.out]
          simp only [CL.normw]
          rw [if_pos HX.out.symm]
        go_wp2
        go_roundg (gk - 1)
        case measure => have := hmm.out; omega
        case rel => have := hmm.out; exact ⟨k, by go_num, (show _ = _ by omega), by omega, Hn.out, hbel.out⟩
      · have hxe : ((x : Int) == 0) = false := by simp; omega
        have Hn : Hid ((CL.normw ws n).length = k + 1) := by
          show _ = _
          rw [← hnw.out]
          simp only [CL.normw]
          rw [if_neg (by rw [← HX.out]; exact hx0)]
          have := HN.out
          simp; omega
        go_wp2
        go_ret
        exact ⟨show Ending.returned (.slice (some ⟨g, 0, none⟩) (k + 1) cap) = _ by rw [Hn.out], hbel.out⟩
    · obtain rfl : i = 0 := by omega
      have Hn : Hid ((CL.normw ws n).length = 0) := by
        show _ = _
        rw [← hnw.out]; rfl
      go_wp2
      go_ret
      exact ⟨show Ending.returned (.slice (some ⟨g, 0, none⟩) 0 cap) = _ by rw [Hn.out], hbel.out⟩

theorem andw_length (a b : List Nat) : (CL.andw a b).length = min a.length b.length := by simp [CL.andw]
theorem andw_at (a b : List Nat) (i : Nat) (h : i < (CL.andw a b).length) : (CL.andw a b).getD i 0 = a.getD i 0 &&& b.getD i 0 := by
  have h1 : i < a.length := by rw [andw_length] at h; omega
  have h2 : i < b.length := by rw [andw_length] at h; omega
  simp [CL.andw, List.getD, List.getElem?_zipWith, List.getElem?_eq_getElem h1, List.getElem?_eq_getElem h2]
theorem andw_lt {a b : List Nat} (ha : CL.Nrm a) : ∀ x ∈ CL.andw a b, x < 2 ^ 64 := by
  intro x hx
  obtain ⟨i, hi, rfl⟩ := List.getElem_of_mem hx
  have := andw_at a b i hi
  rw [List.getD, List.getElem?_eq_getElem hi, Option.getD_some] at this
  rw [this]
  exact Nat.lt_of_le_of_lt Nat.and_le_left (CL.getD_lt ha.1 i)

/-- what the words of both are -/
structure AndOf (a b ws : List Nat) : Prop where
  nrm : CL.Nrm ws
  lim : ws.length ≤ 2000
  tb : ∀ k, CL.tb ws k = (CL.tb a k && CL.tb b k)

theorem andOf_norm (a b : List Nat) (ha : CL.Nrm a) (hl : a.length ≤ 2000) : AndOf a b (CL.normw (CL.andw a b) (CL.andw a b).length) ∧ ∃ m, m ≤ (CL.andw a b).length ∧ CL.normw (CL.andw a b) (CL.andw a b).length = (CL.andw a b).take m := by
  obtain ⟨m, h1, h2, h3, h4⟩ := CL.normw_spec (CL.andw a b) (andw_lt ha) _ (Nat.le_refl _) (fun j hj => by simp [List.getD, List.getElem?_eq_none hj])
  refine ⟨⟨h3, ?_, fun k => by rw [h4, CL.tb_andw]⟩, m, h1, h2⟩
  rw [h2, List.length_take, andw_length]; omega

theorem and_own (g cap k : Nat) (cu : List Value) (a b : List Nat) (w : World) (B : Nat) (hBg : B ≤ g) (hw : w.heap[g]? = some (.cells cu.toArray 105 (0, 0))) (hcu : cu.length = cap) (hkc : k ≤ cap) (hcm : cap ≤ maxLen) (hk : k = (CL.andw a b).length)
    (hd : ∀ j, j < k → cu[j]? = some (.int .u64 ((CL.andw a b).getD j 0 : Nat))) (mm : Nat) (ht : mm ≤ (CL.andw a b).length ∧ CL.normw (CL.andw a b) (CL.andw a b).length = (CL.andw a b).take mm) :
    w.ownsRow B 105 1 (.slice (some ⟨g, 0, none⟩) (CL.normw (CL.andw a b) k).length cap) (CL.normw (CL.andw a b) k).length (words (CL.normw (CL.andw a b) k)) := by
  subst hk
  rw [ht.2]
  have hl : ((CL.andw a b).take mm).length = mm := by rw [List.length_take]; omega
  rw [hl]
  refine ⟨by rw [words_length, hl, Nat.mul_one], .inr ⟨g, cap, _, rfl, hBg, hw, by omega, hcm, by simp; omega, ?_⟩⟩
  apply List.ext_getElem?
  intro j
  rw [Nat.mul_one, List.getElem?_take]
  by_cases h1 : j < mm
  · rw [if_pos h1, words_at _ j (by omega)]
    show cu[j]? = _
    rw [hd j (by omega)]
    have h2 : j < (CL.andw a b).length := by omega
    simp [List.getD, List.getElem?_take, h1]
  · rw [if_neg h1, List.getElem?_eq_none (by rw [words_length]; omega)]

set_option maxRecDepth 100000 in
set_option maxHeartbeats 4000000 in
theorem nat_and_any (ao bo : Option Addr) (n c m d : Nat) (a b : List Nat) (w : World) (ha : Nat_ w ao n a) (hb : Nat_ w bo m b) :
    Calls Tryz.prog 84 #[.slice none 0 0, .slice ao n c, .slice bo m d] w fun e w' => ∃ (v : Value) (ws : List Nat), e = .returned v ∧ w'.ownsRow w.heap.size 105 1 v ws.length (words ws) ∧ AndOf a b ws ∧ Below w.heap.size w w' := by
  obtain ⟨hla, hal, haw, haat⟩ := ha
  obtain ⟨hlb, hbl, hbw, hbat⟩ := hb
  have hn : n ≤ 2000 := by omega
  have hm : m ≤ 2000 := by omega
  obtain ⟨hand, mm, hmm, htk⟩ := andOf_norm a b haw hal
  have Hand := Lib.hid hand
  have Htk : Hid (mm ≤ (CL.andw a b).length ∧ CL.normw (CL.andw a b) (CL.andw a b).length = (CL.andw a b).take mm) := ⟨hmm, htk⟩
  obtain ⟨k, hk⟩ : ∃ k, k = min n m := ⟨_, rfl⟩
  have Hk : Hid (k = (CL.andw a b).length) := by show _ = _; rw [andw_length, hk, hla, hlb]
  have hkn : k ≤ n := by omega
  have hkm : k ≤ m := by omega
  have hkk : k = n ∨ k = m := by omega
  have Hkk : Hid (k = min n m) := hk
  have Hla := Lib.hid hla
  have Hlb := Lib.hid hlb
  clear hand hmm htk
  by_cases h0 : k = 0
  · subst h0
    have hnil : CL.normw (CL.andw a b) (CL.andw a b).length = [] := by rw [← Hk.out]; rfl
    have Ha : Hid (AndOf a b []) := by show AndOf a b []; rw [← hnil]; exact Hand.out
    clear hla hlb haat hbat hnil hk
    by_cases hnm : n > m
    · obtain rfl : m = 0 := by omega
      have hd : decide ((n : Int) > ((0 : Nat) : Int)) = true := by simp; omega
      go_enter Tryz.func84, Tryz.ntmps84
      go_wp2_with fail
      refine (make_reuse none 0 0 0 _ (Nat.le_refl _) (by decide)).mono ?_
      rintro e w2 ⟨rfl, rfl⟩
      go_wp2
      refine wp_loop_rounds 1 ?_
      rw [rounds_succ]
      go_wp2_with fail
      refine (norm_nil _).mono ?_
      rintro e w2 ⟨rfl, rfl⟩
      go_wp2
      go_ret
      exact ⟨_, [], rfl, World.ownsRow_nil _ _ _ _, Ha.out, Below.refl _ _⟩
    · obtain rfl : n = 0 := by omega
      have hd : decide (((0 : Nat) : Int) > (m : Int)) = false := by simp
      go_enter Tryz.func84, Tryz.ntmps84
      go_wp2_with fail
      refine (make_reuse none 0 0 0 _ (Nat.le_refl _) (by decide)).mono ?_
      rintro e w2 ⟨rfl, rfl⟩
      go_wp2
      refine wp_loop_rounds 1 ?_
      rw [rounds_succ]
      go_wp2_with fail
      refine (norm_nil _).mono ?_
      rintro e w2 ⟨rfl, rfl⟩
      go_wp2
      go_ret
      exact ⟨_, [], rfl, World.ownsRow_nil _ _ _ _, Ha.out, Below.refl _ _⟩
  · have hna : a ≠ [] := fun e => h0 (by rw [e] at hla; simp at hla; omega)
    have hnb : b ≠ [] := fun e => h0 (by rw [e] at hlb; simp at hlb; omega)
    obtain ⟨g1, rfl, hca⟩ := haat hna
    obtain ⟨g2, rfl, hcb⟩ := hbat hnb
    have HCa : Hid (∀ j, j < a.length → w.cell? ⟨g1, j, none⟩ = some (.int .u64 (a.getD j 0 : Nat))) := hca
    have HCb : Hid (∀ j, j < b.length → w.cell? ⟨g2, j, none⟩ = some (.int .u64 (b.getD j 0 : Nat))) := hcb
    have HAl : Hid (∀ i, a.getD i 0 < 2 ^ 64) := CL.getD_lt haw.1
    have HBl : Hid (∀ i, b.getD i 0 < 2 ^ 64) := CL.getD_lt hbw.1
    have Hmk := Lib.hid (fun W (hW : W = w) => make_grow w.heap.size (.slice none 0 0) [] 0 k (k : Int) rfl W (by rw [hW]; exact Nat.le_refl _) (World.ownsRow_nil _ _ _ _) (by omega) (by omega))
    clear hca hcb hla hlb haat hbat hna hnb hk
    have hway : (n > m ∧ k = m) ∨ (¬ n > m ∧ k = n) := by have := Hkk.out; omega
    rcases hway with ⟨hnm, rfl⟩ | ⟨hnm, rfl⟩
    · have hd : decide ((n : Int) > (k : Int)) = true := decide_eq_true (by omega)
      have hd2 : k < n := by omega
      clear Hkk hkk hnm
      go_enter Tryz.func84, Tryz.ntmps84
      go_wp2_with fail
      refine (Hmk.out _ rfl).mono ?_
      rintro e w2 ⟨g, cap, cur, rfl, hg, hcl, hkc, hcm, hBg, hb2, _⟩
      have Hcm := Lib.hid hcm
      have hcm2 : cap ≤ 9223372036854775807 := by unfold maxLen at hcm; omega
      have Hcl := Lib.hid hcl
      clear hcm hcl
      go_wp2
      go_loopg [9] k (fun mm iv wr => ∃ (i : Nat) (cu : List Value), iv = .int .i64 i ∧ Hid (mm + i = k) ∧ i ≤ k ∧ Hid (wr.heap[g]? = some (.cells cu.toArray 105 (0, 0))) ∧ Hid (cu.length = cap) ∧ Hid (∀ j, j < i → cu[j]? = some (.int .u64 ((CL.andw a b).getD j 0 : Nat))) ∧ Hid (Below w.heap.size w wr))
      case atStart => exact ⟨0, cur, rfl, (show _ = _ by omega), Nat.zero_le _, hg, Hcl.out, fun j hj => absurd hj (Nat.not_lt_zero j), hb2⟩
      case round =>
        obtain ⟨i, cu, rfl, hmm, hi, hgr, hcu, hdone, hbel⟩ := hrel
        by_cases hik : i < k
        · have hlt : decide ((i : Int) < (k : Int)) = true := by simp; omega
          have i0 : (0 : Int) ≤ i := by omega
          have in1 : (i : Int) < n := by omega
          have in3 : (i : Int) < k := by omega
          have hia : i < a.length := by have := Hk.out; rw [andw_length] at this; omega
          have hib : i < b.length := by have := Hk.out; rw [andw_length] at this; omega
          have c1 := (hbel.out.cell (p := ⟨g1, i, none⟩) (World.block_lt_of_cell? w _ (HCa.out i hia))).trans (HCa.out i hia)
          have c2 := (hbel.out.cell (p := ⟨g2, i, none⟩) (World.block_lt_of_cell? w _ (HCb.out i hib))).trans (HCb.out i hib)
          obtain ⟨cv, hcv⟩ : ∃ cv, cu[i]? = some cv := ⟨_, List.getElem?_eq_getElem (by have := hcu.out; omega)⟩
          have c3 := row_cell hgr.out hcv
          have f3 := row_free hgr.out i
          obtain ⟨x, hx⟩ : ∃ x, x = a.getD i 0 := ⟨_, rfl⟩
          obtain ⟨y, hy⟩ : ∃ y, y = b.getD i 0 := ⟨_, rfl⟩
          rw [← hx] at c1
          rw [← hy] at c2
          have HX : Hid (x = a.getD i 0) := hx
          have HY : Hid (y = b.getD i 0) := hy
          have HV : Hid (bits .and .u64 (x : Int) (y : Int) = ((CL.andw a b).getD i 0 : Nat)) := by
            show _ = _
            rw [andw_at a b i (by have := Hk.out; omega), ← hx, ← hy]
            exact bits_and_u64_nat x y (by rw [hx]; exact HAl.out i) (by rw [hy]; exact HBl.out i)
          clear hx hy hcv hia hib
          go_wp2
          go_region
          go_wp2
          go_roundg (gk - 1)
          case measure => have := hmm.out; omega
          case rel =>
            have := hmm.out
            refine ⟨i + 1, cu.set i (.int .u64 (bits .and .u64 (x : Int) (y : Int))), by go_num, (show _ = _ by omega), by omega, ?_, (show _ = _ by rw [List.length_set]; exact hcu.out), ?_, ?_⟩
            · show (wr.setCell ⟨g, i, none⟩ _).heap[g]? = _
              rw [heap_setCell_same _ _ _ _ _ _ hgr.out]
              simp
            · intro j hj
              have hcl := hcu.out
              by_cases hji : j = i
              · subst hji
                rw [List.getElem?_set_self (by omega), HV.out]
              · rw [List.getElem?_set_ne (fun e => hji e.symm)]
                exact hdone.out j (by omega)
            · exact (hbel.out.setCell hBg _).drew
        · obtain rfl : i = k := by omega
          have hlt : decide ((i : Int) < (i : Int)) = false := by simp
          have Hn : Hid (i = (CL.andw a b).length) := Hk.out
          have HC : Hid (∀ j, j < (CL.andw a b).length → wr.cell? ⟨g, j, none⟩ = some (.int .u64 ((CL.andw a b).getD j 0 : Nat))) := by
            intro j hj
            exact row_cell hgr.out (hdone.out j (by have := Hn.out; omega))
          have Hno := Lib.hid (norm_any g cap (CL.andw a b) wr HC.out (by have := Hn.out; omega) (by have := Hn.out; omega) Hcm.out)
          rw [← Hn.out] at Hno
          go_wp2_with fail
          refine Hno.out.mono ?_
          rintro e w4 ⟨rfl, hb4⟩
          go_wp2
          go_ret
          have hw4 : w4.heap[g]? = some (.cells cu.toArray 105 (0, 0)) := (hb4.block g (Array.getElem?_eq_some_iff.1 hgr.out).1).trans hgr.out
          exact ⟨_, CL.normw (CL.andw a b) i, rfl, and_own g cap i cu a b w4 w.heap.size hBg hw4 hcu.out hkc Hcm.out Hn.out hdone.out mm Htk.out, by rw [Hn.out]; exact Hand.out, hbel.out.trans (hb4.mono hbel.out.size)⟩
    · have hd : decide ((k : Int) > (m : Int)) = false := decide_eq_false (by omega)
      clear Hkk hkk hnm
      go_enter Tryz.func84, Tryz.ntmps84
      go_wp2_with fail
      refine (Hmk.out _ rfl).mono ?_
      rintro e w2 ⟨g, cap, cur, rfl, hg, hcl, hkc, hcm, hBg, hb2, _⟩
      have Hcm := Lib.hid hcm
      have hcm2 : cap ≤ 9223372036854775807 := by unfold maxLen at hcm; omega
      have Hcl := Lib.hid hcl
      clear hcm hcl
      go_wp2
      go_loopg [9] k (fun mm iv wr => ∃ (i : Nat) (cu : List Value), iv = .int .i64 i ∧ Hid (mm + i = k) ∧ i ≤ k ∧ Hid (wr.heap[g]? = some (.cells cu.toArray 105 (0, 0))) ∧ Hid (cu.length = cap) ∧ Hid (∀ j, j < i → cu[j]? = some (.int .u64 ((CL.andw a b).getD j 0 : Nat))) ∧ Hid (Below w.heap.size w wr))
      case atStart => exact ⟨0, cur, rfl, (show _ = _ by omega), Nat.zero_le _, hg, Hcl.out, fun j hj => absurd hj (Nat.not_lt_zero j), hb2⟩
      case round =>
        obtain ⟨i, cu, rfl, hmm, hi, hgr, hcu, hdone, hbel⟩ := hrel
        by_cases hik : i < k
        · have hlt : decide ((i : Int) < (k : Int)) = true := by simp; omega
          have i0 : (0 : Int) ≤ i := by omega
          have in2 : (i : Int) < m := by omega
          have in3 : (i : Int) < k := by omega
          have hia : i < a.length := by have := Hk.out; rw [andw_length] at this; omega
          have hib : i < b.length := by have := Hk.out; rw [andw_length] at this; omega
          have c1 := (hbel.out.cell (p := ⟨g1, i, none⟩) (World.block_lt_of_cell? w _ (HCa.out i hia))).trans (HCa.out i hia)
          have c2 := (hbel.out.cell (p := ⟨g2, i, none⟩) (World.block_lt_of_cell? w _ (HCb.out i hib))).trans (HCb.out i hib)
          obtain ⟨cv, hcv⟩ : ∃ cv, cu[i]? = some cv := ⟨_, List.getElem?_eq_getElem (by have := hcu.out; omega)⟩
          have c3 := row_cell hgr.out hcv
          have f3 := row_free hgr.out i
          obtain ⟨x, hx⟩ : ∃ x, x = a.getD i 0 := ⟨_, rfl⟩
          obtain ⟨y, hy⟩ : ∃ y, y = b.getD i 0 := ⟨_, rfl⟩
          rw [← hx] at c1
          rw [← hy] at c2
          have HX : Hid (x = a.getD i 0) := hx
          have HY : Hid (y = b.getD i 0) := hy
          have HV : Hid (bits .and .u64 (x : Int) (y : Int) = ((CL.andw a b).getD i 0 : Nat)) := by
            show _ = _
            rw [andw_at a b i (by have := Hk.out; omega), ← hx, ← hy]
            exact bits_and_u64_nat x y (by rw [hx]; exact HAl.out i) (by rw [hy]; exact HBl.out i)
          clear hx hy hcv hia hib
          go_wp2
          go_region
          go_wp2
          go_roundg (gk - 1)
          case measure => have := hmm.out; omega
          case rel =>
            have := hmm.out
            refine ⟨i + 1, cu.set i (.int .u64 (bits .and .u64 (x : Int) (y : Int))), by go_num, (show _ = _ by omega), by omega, ?_, (show _ = _ by rw [List.length_set]; exact hcu.out), ?_, ?_⟩
            · show (wr.setCell ⟨g, i, none⟩ _).heap[g]? = _
              rw [heap_setCell_same _ _ _ _ _ _ hgr.out]
              simp
            · intro j hj
              have hcl := hcu.out
              by_cases hji : j = i
              · subst hji
                rw [List.getElem?_set_self (by omega), HV.out]
              · rw [List.getElem?_set_ne (fun e => hji e.symm)]
                exact hdone.out j (by omega)
            · exact (hbel.out.setCell hBg _).drew
        · obtain rfl : i = k := by omega
          have hlt : decide ((i : Int) < (i : Int)) = false := by simp
          have Hn : Hid (i = (CL.andw a b).length) := Hk.out
          have HC : Hid (∀ j, j < (CL.andw a b).length → wr.cell? ⟨g, j, none⟩ = some (.int .u64 ((CL.andw a b).getD j 0 : Nat))) := by
            intro j hj
            exact row_cell hgr.out (hdone.out j (by have := Hn.out; omega))
          have Hno := Lib.hid (norm_any g cap (CL.andw a b) wr HC.out (by have := Hn.out; omega) (by have := Hn.out; omega) Hcm.out)
          rw [← Hn.out] at Hno
          go_wp2_with fail
          refine Hno.out.mono ?_
          rintro e w4 ⟨rfl, hb4⟩
          go_wp2
          go_ret
          have hw4 : w4.heap[g]? = some (.cells cu.toArray 105 (0, 0)) := (hb4.block g (Array.getElem?_eq_some_iff.1 hgr.out).1).trans hgr.out
          exact ⟨_, CL.normw (CL.andw a b) i, rfl, and_own g cap i cu a b w4 w.heap.size hBg hw4 hcu.out hkc Hcm.out Hn.out hdone.out mm Htk.out, by rw [Hn.out]; exact Hand.out, hbel.out.trans (hb4.mono hbel.out.size)⟩

theorem Nat_.below {w w' : World} {ao : Option Addr} {n : Nat} {ws : List Nat} (h : Nat_ w ao n ws) (hb : Below w.heap.size w w') : Nat_ w' ao n ws := by
  obtain ⟨h1, h2, h3, h4⟩ := h
  refine ⟨h1, h2, h3, fun hne => ?_⟩
  obtain ⟨g, rfl, hc⟩ := h4 hne
  exact ⟨g, rfl, fun j hj => (hb.cell (p := ⟨g, j, none⟩) (World.block_lt_of_cell? w _ (hc j hj))).trans (hc j hj)⟩

theorem own_lower {w : World} {B B' e n : Nat} {v : Value} {xs : List Value} (h : w.ownsRow B e 1 v n xs) (hB : B' ≤ B) : w.ownsRow B' e 1 v n xs := by
  refine ⟨h.1, ?_⟩
  rcases h.2 with h' | ⟨g, cap, cur, h1, h2, h3⟩
  · exact Or.inl h'
  · exact Or.inr ⟨g, cap, cur, h1, by omega, h3⟩

/-- block b is the and of two -/
theorem big_and_end (b : Nat) (a c ws : List Nat) (v : Value) (w w2 : World) (hb : w.heap[b]? = some (.cells #[.bool false, .slice none 0 0] 99 (0, 0))) (hbel : Below w.heap.size w w2)
    (hown : w2.ownsRow w.heap.size 105 1 v ws.length (words ws)) (ha : AndOf a c ws) :
    BigOwn ((w2.setCell ⟨b, 1, none⟩ v).setCell ⟨b, 0, none⟩ (.bool false)) b w.heap.size ws ∧ BelowX w.heap.size b w ((w2.setCell ⟨b, 1, none⟩ v).setCell ⟨b, 0, none⟩ (.bool false)) := by
  have hbB := (Array.getElem?_eq_some_iff.1 hb).1
  have h2 : w2.heap[b]? = some (.cells #[.bool false, .slice none 0 0] 99 (0, 0)) := (hbel.block b hbB).trans hb
  have h3 := heap_setCell_same w2 b 1 _ _ v h2
  have h4 := heap_setCell_same (w2.setCell ⟨b, 1, none⟩ v) b 0 _ _ (.bool false) h3
  refine ⟨⟨hbB, v, by rw [h4]; rfl, ownsRow_setCell_below (ownsRow_setCell_below hown hbB _) hbB _, ha.nrm, ha.lim⟩, ?_⟩
  refine ⟨hbel.os, hbel.tape, hbel.output, by simpa [World.setCell] using hbel.size, fun k hk hkb => ?_⟩
  rw [Below.heap_setCell _ _ _ _ hkb, Below.heap_setCell _ _ _ _ hkb]
  exact hbel.block k hk

set_option maxRecDepth 100000 in
set_option maxHeartbeats 4000000 in
theorem big_and_any (zb xb XB yb YB : Nat) (a c : List Nat) (w : World) (hz : w.heap[zb]? = some (.cells #[.bool false, .slice none 0 0] 99 (0, 0))) (hx : BigOwn w xb XB a) (hy : BigOwn w yb YB c) :
    Calls Tryz.prog 58 #[.pointer (some ⟨zb, 0, none⟩), .pointer (some ⟨xb, 0, none⟩), .pointer (some ⟨yb, 0, none⟩)] w fun e w' => ∃ ws : List Nat, e = .returned (.pointer (some ⟨zb, 0, none⟩)) ∧ BigOwn w' zb w.heap.size ws ∧ AndOf a c ws ∧ BelowX w.heap.size zb w w' := by
  have Hz : Hid (w.heap[zb]? = some (.cells #[.bool false, .slice none 0 0] 99 (0, 0))) := hz
  have z0 := row_cell (l := [.bool false, .slice none 0 0]) hz (j := 0) rfl
  have z1 := row_cell (l := [.bool false, .slice none 0 0]) hz (j := 1) rfl
  have zf0 := row_free (l := [.bool false, .slice none 0 0]) hz 0
  have zf1 := row_free (l := [.bool false, .slice none 0 0]) hz 1
  have hzl := (Array.getElem?_eq_some_iff.1 hz).1
  obtain ⟨ao, n, cc, x0, x1, hnx⟩ := hx.read
  obtain ⟨bo, m, dd, y0, y1, hny⟩ := hy.read
  have Hand : Hid (∀ W, Below w.heap.size w W → Calls Tryz.prog 84 #[.slice none 0 0, .slice ao n cc, .slice bo m dd] W fun e w' => ∃ (a2 : Option Addr) (c2 : Nat) (ws : List Nat), e = .returned (.slice a2 ws.length c2) ∧ w'.ownsRow w.heap.size 105 1 (.slice a2 ws.length c2) ws.length (words ws) ∧ AndOf a c ws ∧ Below w.heap.size w w') := by
    intro W hW
    refine (nat_and_any ao bo n cc m dd a c W (hnx.below hW) (hny.below hW)).mono ?_
    rintro e w' ⟨v, ws, rfl, h1, h2, h3⟩
    obtain ⟨a2, c2, rfl⟩ := owns_shape h1
    exact ⟨a2, c2, ws, rfl, own_lower h1 hW.size, h2, hW.trans (h3.mono hW.size)⟩
  clear hz hx hy hnx hny
  have keep0 : ∀ w2 : World, Below w.heap.size w w2 → w2.cell? ⟨zb, 0, none⟩ = some (.bool false) := fun w2 hb2 => (hb2.cell (p := ⟨zb, 0, none⟩) hzl).trans z0
  have keep1 : ∀ w2 : World, Below w.heap.size w w2 → w2.cell? ⟨zb, 1, none⟩ = some (.slice none 0 0) := fun w2 hb2 => (hb2.cell (p := ⟨zb, 1, none⟩) hzl).trans z1
  have keepf0 : ∀ w2 : World, Below w.heap.size w w2 → w2.frozen? ⟨zb, 0, none⟩ = false := fun w2 hb2 => (hb2.frozen (p := ⟨zb, 0, none⟩) hzl).trans zf0
  have keepf1 : ∀ w2 : World, Below w.heap.size w w2 → w2.frozen? ⟨zb, 1, none⟩ = false := fun w2 hb2 => (hb2.frozen (p := ⟨zb, 1, none⟩) hzl).trans zf1
  go_enter Tryz.func58, Tryz.ntmps58
  go_wp2_with fail
  go_quiet (fail)
  go_wp2_with fail
  go_region_with ((go_at_call 84; refine (Hand.out _ (by exact below_drewN (Below.refl _ _) _)).mono ?_; rintro e w2 ⟨a2, cc2, ws, rfl, hown2, hand2, hbel2⟩; have hc0 := keep0 w2 hbel2; have hc1 := keep1 w2 hbel2; have hf0 := keepf0 w2 hbel2; have hf1 := keepf1 w2 hbel2))
  all_goals go_wp2
  all_goals go_ret
  all_goals exact ⟨ws, rfl, (big_and_end zb a c ws _ w w2 Hz.out hbel2 hown2 hand2).1, hand2, (big_and_end zb a c ws _ w w2 Hz.out hbel2 hown2 hand2).2⟩
end Go.Proofs.YtaloidnoeafgiaaGreatDoor
