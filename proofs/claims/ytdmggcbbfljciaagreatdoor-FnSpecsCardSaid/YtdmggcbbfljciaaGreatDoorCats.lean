/- catsToBitset: the bits of a text's tokens. -/
import Derived.Test.YtdmggcbbfljciaaGreatDoorSplit
import Derived.Test.YtdmggcbbfljciaaGreatDoorItem
import Derived.Test.YtdmggcbbfljciaaGreatDoorBig2
namespace Go.Proofs.YtdmggcbbfljciaaGreatDoor
open Go.RowKit

def Bits (ws : List Nat) (P : Nat → Prop) : Prop := ∀ x, CL.tb ws x = true ↔ P x

theorem Bits.one {ws : List Nat} {p : List (Nat × Nat)} {k n : Nat} (h : Bits ws (fun x => ∃ t ∈ p.take k, CL.inTok x t)) (hk : k < p.length) (h1 : p.getD k (0, 0) = (n, n)) :
    Bits (CL.setw ws n) (fun x => ∃ t ∈ p.take (k + 1), CL.inTok x t) := by
  intro x
  have e : p.getD k (0, 0) = p[k] := by simp [List.getD, List.getElem?_eq_getElem hk]
  rw [CL.tb_setw, List.take_succ_eq_append_getElem hk, ← e, h1]
  simp only [Bool.or_eq_true, decide_eq_true_eq, h x, List.mem_append, List.mem_singleton]
  constructor
  · rintro (rfl | ⟨t, ht, hx⟩)
    · exact ⟨(x, x), Or.inr rfl, Nat.le_refl _, Nat.le_refl _⟩
    · exact ⟨t, Or.inl ht, hx⟩
  · rintro ⟨t, ht | rfl, hx⟩
    · exact Or.inr ⟨t, ht, hx⟩
    · exact Or.inl (Nat.le_antisymm hx.2 hx.1)

theorem Bits.step {ws : List Nat} {P : Nat → Prop} {a i : Nat} (h : Bits ws (fun x => P x ∨ (a ≤ x ∧ x < i))) (hi : a ≤ i) : Bits (CL.setw ws i) (fun x => P x ∨ (a ≤ x ∧ x < i + 1)) := by
  intro x
  rw [CL.tb_setw]
  simp only [Bool.or_eq_true, decide_eq_true_eq, h x]
  constructor
  · rintro (rfl | hp | hx)
    · right; omega
    · left; exact hp
    · right; omega
  · rintro (hp | hx)
    · right; left; exact hp
    · by_cases e : x = i
      · left; exact e
      · right; right; omega

theorem Bits.range {ws : List Nat} {p : List (Nat × Nat)} {k a b : Nat} (h : Bits ws (fun x => (∃ t ∈ p.take k, CL.inTok x t) ∨ (a ≤ x ∧ x < b + 1))) (hk : k < p.length) (h1 : p.getD k (0, 0) = (a, b)) :
    Bits ws (fun x => ∃ t ∈ p.take (k + 1), CL.inTok x t) := by
  intro x
  have e : p.getD k (0, 0) = p[k] := by simp [List.getD, List.getElem?_eq_getElem hk]
  rw [h x, List.take_succ_eq_append_getElem hk, ← e, h1]
  simp only [List.mem_append, List.mem_singleton]
  constructor
  · rintro (⟨t, ht, hx⟩ | hx)
    · exact ⟨t, Or.inl ht, hx⟩
    · exact ⟨(a, b), Or.inr rfl, hx.1, by show x ≤ b; omega⟩
  · rintro ⟨t, ht | rfl, hx⟩
    · exact Or.inl ⟨t, ht, hx⟩
    · exact Or.inr ⟨hx.1, by have : x ≤ b := hx.2; omega⟩

theorem dec_len (n : Nat) : (Lib.decDigits n).length ≤ n + 1 := by
  induction n using Nat.strongRecOn with
  | _ n ih =>
    rw [Lib.decDigits]
    split
    · simp
    · have := ih (n / 10) (by omega)
      simp; omega

theorem own_strs {w : World} {B c n : Nat} {ao : Option Addr} {ss : List ByteArray} (h : w.ownsRow B 9 1 (.slice ao n c) ss.length (strsV ss)) (hne : 0 < ss.length) :
    n = ss.length ∧ ∃ g, ao = some ⟨g, 0, none⟩ ∧ B ≤ g ∧ g < w.heap.size ∧ ∀ k, k < ss.length → w.cell? ⟨g, k, none⟩ = some (.string (ss.getD k ⟨#[]⟩)) := by
  rcases h.2 with ⟨_, h0⟩ | ⟨g, cap, cur, he, hg, hh, _⟩
  · omega
  · simp only [Value.slice.injEq] at he
    obtain ⟨rfl, rfl, rfl⟩ := he
    refine ⟨rfl, g, rfl, hg, (Array.getElem?_eq_some_iff.1 hh).1, fun k hk => ?_⟩
    rw [h.cellAt k (by omega)]
    simp [strsV, List.getD, List.getElem?_eq_getElem hk]

theorem tokT_one (n : Nat) : CL.tokT (n, n) = 99 :: Lib.decDigits n := by simp [CL.tokT]
theorem tokT_two (a b : Nat) (h : b ≠ a) : CL.tokT (a, b) = (99 :: Lib.decDigits a) ++ 46 :: (99 :: Lib.decDigits b) := by simp [CL.tokT, h]
theorem no_dot (n : Nat) : (46 : UInt8) ∉ (99 :: Lib.decDigits n) := by
  intro h
  rcases List.mem_cons.1 h with h | h
  · exact absurd h (by decide)
  · exact CL.not_dg 46 (by omega) (CL.dec_digits _ _ h)

set_option maxRecDepth 100000 in
set_option maxHeartbeats 4000000 in
theorem cats_any (s : ByteArray) (p : List (Nat × Nat)) (hp : p ≠ []) (hs : s.data.toList = CL.tks p) (hok : ∀ t ∈ p, CL.tokOk t) (hl : s.size ≤ 1000000) (w : World) :
    Calls Tryz.prog 105 #[.string s] w fun e w' => ∃ (b B : Nat) (ws : List Nat), e = .returned (.tuple #[.pointer (some ⟨b, 0, none⟩), .nilIface]) ∧ w.heap.size ≤ b ∧ BigOwn w' b B ws ∧ Bits ws (fun x => ∃ t ∈ p, CL.inTok x t) ∧ Below w.heap.size w w' := by
  have hsp := Lib.hid (split_any s 44 (p.map CL.tokT) (by simpa using hp) hs (by intro q hq; obtain ⟨t, _, rfl⟩ := List.mem_map.1 hq; exact CL.tokT_no_comma t) (by omega))
  have hplen : p.length ≤ s.size + 1 := by
    have := joinC_len 44 (p.map CL.tokT)
    rw [Lib.size_eq, hs]
    simpa [CL.tks] using this
  have Hok : Hid (∀ t ∈ p, CL.tokOk t) := hok
  clear hs hok
  go_enter Tryz.func105, Tryz.ntmps105
  go_wp2_with fail
  refine (hsp.out _).mono ?_
  rintro e w1 ⟨v, ss, rfl, hown, hss, hbel⟩
  obtain ⟨ao, cc, rfl⟩ := owns_shape' hown
  have hsl : ss.length = p.length := by have := congrArg List.length hss.out; simpa using this
  have hpp : 0 < p.length := List.length_pos_iff.2 hp
  obtain ⟨_, g, rfl, hg1, hg2, hcs⟩ := own_strs hown (by omega)
  have hs1 : w.heap.size + 1 ≤ w1.heap.size := by have := hbel.size; simpa using this
  have hg1' : w.heap.size + 1 ≤ g := by simpa using hg1
  have hbig : BigOwn w1 w.heap.size w1.heap.size [] := by
    refine ⟨by omega, .slice none 0 0, ?_, World.ownsRow_nil _ _ _ _, CL.Nrm.nil, by simp⟩
    rw [hbel.block w.heap.size (by simp)]
    exact heap_alloc_new _ _
  have Hcs : Hid (∀ k, k < ss.length → w1.cell? ⟨g, k, none⟩ = some (.string (ss.getD k ⟨#[]⟩))) := hcs
  have Hsl : Hid (ss.length = p.length) := hsl
  have Hbel : Hid (Below w.heap.size w w1) := ((Below.refl _ _).alloc (Nat.le_refl _) _).trans (hbel.mono (by simp))
  have Hbig : Hid (BigOwn w1 w.heap.size w1.heap.size []) := hbig
  have Htok : Hid (∀ k, k < p.length → (ss.getD k ⟨#[]⟩).data.toList = CL.tokT (p.getD k (0, 0))) := by
    intro k hk
    have h1 := congrArg (fun l => l.getD k []) hss.out
    have hk' : k < ss.length := by omega
    simpa [List.getD, List.getElem?_eq_getElem hk, List.getElem?_eq_getElem hk'] using h1
  have hslen : ss.length ≤ 1000001 := by omega
  clear hcs hsl hbel hbig hown hss hg1 hp
  obtain ⟨B, hB⟩ : ∃ B, B = w1.heap.size := ⟨_, rfl⟩
  rw [← hB] at Hbig hg2
  have HB : Hid (B = w1.heap.size) := hB
  go_wp2_with fail
  go_loopg [22] (p.length + 1) (fun m iv wr => ∃ (k : Nat) (ws : List Nat), iv = .int .i64 k ∧ Hid (m + k = p.length + 1) ∧ Hid (k ≤ p.length) ∧ Hid (BigOwn wr w.heap.size B ws) ∧ Hid (BelowX B w.heap.size w1 wr) ∧ Hid (Bits ws (fun x => ∃ t ∈ p.take k, CL.inTok x t)))
  case atStart => exact ⟨0, [], rfl, rfl, Nat.zero_le _, Hbig, BelowX.refl _ _ _, by intro x; simp [CL.tb_nil]⟩
  case round =>
    obtain ⟨k, ws, rfl, hm, hk, hbig, hbx, hbits⟩ := hrel
    by_cases hkn : k < p.length
    · have hks : k < ss.length := by have := Hsl.out; omega
      have hbsz := hbx.out.size
      have hgne : g ≠ w.heap.size := by omega
      have hcell := (hbx.out.cell (p := ⟨g, k, none⟩) hg2 hgne).trans (Hcs.out k hks)
      have htk := Htok.out k hkn
      have hlt := Hok.out (p.getD k (0, 0)) (by simp [List.getD, List.getElem?_eq_getElem hkn])
      obtain ⟨r, hr⟩ : ∃ r, r = ss.getD k ⟨#[]⟩ := ⟨_, rfl⟩
      rw [← hr] at hcell htk
      obtain ⟨a, c, hac⟩ : ∃ a c, p.getD k (0, 0) = (a, c) := ⟨_, _, rfl⟩
      rw [hac] at htk hlt
      obtain ⟨h1, h2⟩ := hlt
      simp only at h1 h2
      have Hac : Hid (p.getD k (0, 0) = (a, c)) := hac
      clear hac hr
      by_cases hone : c = a
      · subst hone
        rw [tokT_one] at htk
        have hrl : r.size ≤ 20000 := by
          have := dec_len c
          rw [Lib.size_eq, htk]; simp; omega
        have hcm := Lib.hid (cut_miss r 46 (by rw [htk]; exact no_dot c) (by omega))
        have hit := Lib.hid (item_any r 99 99 rfl c htk (by omega) (by omega))
        clear htk
        have hBw : B ≤ wr.heap.size := by have := HB.out; omega
        go_wp2_with fail
        refine (hcm.out _).mono ?_
        rintro e w2 ⟨rfl, hb2⟩
        go_wp2_with fail
        refine (hit.out _).mono ?_
        rintro e w3 ⟨rfl, hb3⟩
        have hbig3 : BigOwn w3 w.heap.size B ws := (hbig.out.below hb2).below hb3
        have hsz2 := hb2.size
        have hsz3 := hb3.size
        go_wp2_with fail
        refine (big_setBit w.heap.size B ws c _ rfl _ hbig3 (by omega) (by omega)).mono ?_
        rintro e w4 ⟨rfl, hbig4, hbx4⟩
        go_wp2_with fail
        go_roundg (gk - 1)
        case measure => have := hm.out; have := hk.out; omega
        case rel =>
          have e1 := hm.out
          refine ⟨k + 1, CL.setw ws c, by go_num, show _ = _ by omega, show _ ≤ _ by omega, hbig4, ?_, Bits.one hbits.out hkn Hac.out⟩
          exact hbx.out.trans (((BelowX.of_below (hb2.mono hBw)).trans (BelowX.of_below (hb3.mono (by omega)))).trans hbx4)
      · rw [tokT_two a c hone] at htk
        have hrl : r.size ≤ 40000 := by
          have := dec_len c
          have := dec_len a
          rw [Lib.size_eq, htk]; simp; omega
        have hcm := Lib.hid (cut_hit r 46 _ _ htk (no_dot a) (by omega))
        clear htk
        have hBw : B ≤ wr.heap.size := by have := HB.out; omega
        go_wp2_with fail
        refine (hcm.out _).mono ?_
        rintro e w2 ⟨r1, r2, rfl, hr1, hr2, hb2⟩
        have hrl1 : r1.size ≤ 20000 := by have := dec_len a; rw [Lib.size_eq, hr1.out]; simp; omega
        have hrl2 : r2.size ≤ 20000 := by have := dec_len c; rw [Lib.size_eq, hr2.out]; simp; omega
        have hit1 := Lib.hid (item_any r1 99 99 rfl a hr1.out (by omega) (by omega))
        have hit2 := Lib.hid (item_any r2 99 99 rfl c hr2.out (by omega) (by omega))
        go_wp2_with fail
        refine (hit1.out _).mono ?_
        rintro e w3 ⟨rfl, hb3⟩
        go_wp2_with fail
        refine (hit2.out _).mono ?_
        rintro e w4 ⟨rfl, hb4⟩
        have hsz2 := hb2.size
        have hsz3 := hb3.size
        have hsz4 := hb4.size
        have hbig4 : Hid (BigOwn w4 w.heap.size B ws) := ((hbig.out.below hb2).below hb3).below hb4
        have hbx4 : Hid (BelowX B w.heap.size w1 w4) := hbx.out.trans (((BelowX.of_below (hb2.mono hBw)).trans (BelowX.of_below (hb3.mono (by omega)))).trans (BelowX.of_below (hb4.mono (by omega))))
        clear hb2 hb3 hb4 hbig hbx
        obtain ⟨wo, rfl⟩ : ∃ wo : World, wo = wr := ⟨_, rfl⟩
        obtain ⟨go, rfl⟩ : ∃ go : Nat, go = gk := ⟨_, rfl⟩
        go_wp2_with fail
        go_loopg [14] (c + 2 - a) (fun m iv wr => ∃ (x : Nat) (ws' : List Nat), iv = .int .i64 x ∧ Hid (m + x = c + 2) ∧ Hid (a ≤ x ∧ x ≤ c + 1) ∧ Hid (BigOwn wr w.heap.size B ws') ∧ Hid (BelowX B w.heap.size w1 wr) ∧ B ≤ wr.heap.size ∧ Hid (Bits ws' (fun y => (∃ t ∈ p.take k, CL.inTok y t) ∨ (a ≤ y ∧ y < x))))
        case atStart => exact ⟨a, ws, rfl, (show _ = _ by omega), ⟨Nat.le_refl _, by omega⟩, hbig4, hbx4, by omega, by intro y; rw [hbits.out y]; constructor <;> intro h <;> first | exact Or.inl h | (rcases h with h | h; exact h; omega)⟩
        case round =>
          obtain ⟨x, ws', rfl, hmx, hx, hbig5, hbx5, hBw5, hbits5⟩ := hrel
          have hx1 := hx.out.1
          have hx2 := hx.out.2
          by_cases hxc : x ≤ c
          · go_wp2_with fail
            refine (big_setBit w.heap.size B ws' x _ rfl _ hbig5.out hBw5 (by omega)).mono ?_
            rintro e w6 ⟨rfl, hbig6, hbx6⟩
            have hsz6 := hbx6.size
            go_wp2_with fail
            go_roundg (gk - 1)
            case measure => have := hmx.out; omega
            case rel =>
              have e1 := hmx.out
              exact ⟨x + 1, CL.setw ws' x, by go_num, (show _ = _ by omega), ⟨by omega, by omega⟩, hbig6, hbx5.out.trans hbx6, by omega, hbits5.out.step hx1⟩
          · have hxe : x = c + 1 := by omega
            have Hb6 : Hid (Bits ws' (fun y => ∃ t ∈ p.take (k + 1), CL.inTok y t)) := by
              have h1 := hbits5.out
              rw [hxe] at h1
              exact h1.range hkn Hac.out
            clear hxe hx hmx hbits5
            go_wp2_with fail
            go_roundg (go - 1)
            case measure => have := hm.out; have := hk.out; omega
            case rel =>
              have e1 := hm.out
              exact ⟨k + 1, ws', by go_num, (show _ = _ by omega), (show _ ≤ _ by omega), hbig5, hbx5, Hb6⟩
    · have hke : Hid (k = p.length) := by have := hk.out; show k = p.length; omega
      have hkI : ¬ k < ss.length := by have := Hsl.out; omega
      go_wp2_with fail
      go_ret2
      refine ⟨_, B, ws, rfl, Nat.le_refl _, hbig.out, ?_, Hbel.out.trans (hbx.out.below (Nat.le_refl _) (by omega))⟩
      have h1 := hbits.out
      rw [hke.out, List.take_length] at h1
      exact h1
end Go.Proofs.YtdmggcbbfljciaaGreatDoor
