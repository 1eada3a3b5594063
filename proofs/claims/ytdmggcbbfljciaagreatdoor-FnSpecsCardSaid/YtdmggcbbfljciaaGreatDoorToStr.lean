/- bitsetToStr: the text of a set of categories. -/
import Derived.Test.YtdmggcbbfljciaaGreatDoorRange
import Derived.Sort.Grow
namespace Go.Proofs.YtdmggcbbfljciaaGreatDoor
open Go.RowKit Go.Sort

theorem below_grow {B : Nat} {a w : World} (h : Below B a w) (hB : B ≤ w.heap.size) (os : Array Obj) : Below B a (grow w os) :=
  h.trans ⟨rfl, rfl, rfl, by simp [grow], fun k hk => by
    show (w.heap ++ os)[k]? = _
    rw [Array.getElem?_append_left (by omega)]⟩

theorem itoa_nat (n : Nat) (N : Int) (hN : N = n) (hn : n ≤ 1000000000) (w : World) (hT : Tabs w) :
    Calls Tryz.prog 47 #[.int .i64 N] w fun e w' => ∃ r : ByteArray, e = .returned (.string r) ∧ Hid (r.data.toList = Lib.decDigits n) ∧ r.size ≤ n + 1 ∧ Below w.heap.size w w' := by
  subst hN
  refine (Tryz.strconv_Itoa n (by omega) (by omega) w hT.pow).mono ?_
  rintro e w' ⟨rfl, k, os, rfl⟩
  have e1 : Lib.itoa (n : Int) = Lib.decDigits n := by
    unfold Lib.itoa
    rw [if_neg (by omega), Int.toNat_natCast]
  refine ⟨_, rfl, ?_, ?_, below_grow (below_drewN (Below.refl w.heap.size w) _) (Nat.le_refl _) _⟩
  · show _ = _
    rw [e1]
  · rw [Lib.size_eq, e1]; exact dec_len n

theorem str_nil (x : ByteArray) (h : x.data.toList = []) : (x.toList == []) = true ∧ x.toList.isEmpty = true ∧ x.toList = [] := by
  have e : x.toList = [] := by rw [ByteArray.toList_eq]; exact h
  rw [e]; simp
theorem str_some (x : ByteArray) (h : x.data.toList ≠ []) : (x.toList == []) = false ∧ x.toList.isEmpty = false := by
  have e : x.toList ≠ [] := by rw [ByteArray.toList_eq]; exact h
  cases hx : x.toList with
  | nil => exact absurd hx e
  | cons a l => simp

theorem app_bytes (x y : ByteArray) : (x ++ y).data.toList = x.data.toList ++ y.data.toList := by
  rw [ByteArray.data_append]; simp

theorem bitI_true {ws : List Nat} {k : Nat} (h : CL.tb ws k = true) : bitI ws k = 1 := by simp [bitI, h]
theorem bitI_false {ws : List Nat} {k : Nat} (h : CL.tb ws k = false) : bitI ws k = 0 := by simp [bitI, h]

set_option maxRecDepth 100000 in
set_option maxHeartbeats 8000000 in
theorem toStr_any (b B : Nat) (ws : List Nat) (l : List Nat) (hg : CL.Gr l) (hl : ∀ x, CL.tb ws x = true ↔ x ∈ l) (w : World) (hbig : BigOwn w b B ws) (hT : Tabs w) :
    Calls Tryz.prog 82 #[.pointer (some ⟨b, 0, none⟩)] w fun e w' => ∃ r : ByteArray, e = .returned (.string r) ∧ Hid (r.data.toList = CL.catsT l) ∧ r.size ≤ 300000 * 128000 ∧ Below w.heap.size w w' := by
  have hwl : ws.length ≤ 2000 := by obtain ⟨_, v, _, _, _, h⟩ := hbig; exact h
  have Hg : Hid (CL.Gr l) := hg
  have Hl : Hid (∀ x, CL.tb ws x = true ↔ x ∈ l) := hl
  clear hg hl
  go_enter Tryz.func82, Tryz.ntmps82
  go_wp2_with fail
  refine (big_tz _ b B ws hbig hT).mono ?_
  rintro e w1 ⟨tz, rfl, htz, rfl⟩
  have htz2 := htz.2
  have Htz : Hid (CL.TZ ws tz) := htz
  clear htz
  go_wp2_with fail
  go_loopg [3, 4, 6] (128001 - tz) (fun m sv kv iv wr => ∃ (i k : Nat) (x : ByteArray), sv = .string x ∧ kv = .int .i64 k ∧ iv = .int .i64 i ∧ Hid (m + i = 128001) ∧ i ≤ 128000 ∧ k ≤ i ∧ x.size ≤ 300000 * i ∧ Hid (CL.BInv l i k x.data.toList) ∧ Hid (Below w1.heap.size w1 wr))
  case atStart =>
    refine ⟨tz, 0, ⟨#[]⟩, rfl, rfl, rfl, (show _ = _ by omega), by omega, by omega, Nat.zero_le _, ?_, Below.refl _ _⟩
    refine CL.BInv.start l tz fun y hy => ?_
    by_cases h : y < tz
    · have h1 := Htz.out.1 y h
      have h2 := (Hl.out y).2 hy
      rw [h1] at h2; exact absurd h2 (by decide)
    · omega
  case round =>
    obtain ⟨i, k, x, rfl, rfl, rfl, hm, hi, hki, hxs, hinv, hbel⟩ := hrel
    have hbigr := hbig.below hbel.out
    have hTr := hT.below hbel.out
    have hszr := hbel.out.size
    go_wp2_with fail
    refine (big_bitLen _ b B ws hbigr).mono ?_
    rintro e w2 ⟨m, rfl, hbl, rfl⟩
    have hbl3 := hbl.2.2
    have Hbl : Hid (CL.BL ws m) := hbl
    clear hbl
    by_cases him : i < m
    · have hi2 : i + 1 ≤ 128000 := by omega
      by_cases hbi : CL.tb ws i = true
      · have hmem := (Hl.out i).1 hbi
        have hz1 := bitI_true hbi
        have Hmem : Hid (i ∈ l) := hmem
        clear hmem hbi
        go_wp2_with fail
        refine (big_bit _ b B ws hbigr i _ rfl (by omega)).mono ?_
        rw [hz1]
        clear hz1
        rintro e w3 ⟨rfl, rfl⟩
        by_cases hk0 : k = 0
        · subst hk0
          by_cases hx0 : x.data.toList = []
          · obtain ⟨hx1, hx2, hx3⟩ := str_nil x hx0
            have Hx0 : Hid (x.data.toList = []) := hx0
            clear hx0
            go_wp2_with fail
            refine (itoa_nat i _ rfl (by omega) _ hTr).mono ?_
            rintro e w5 ⟨r0, rfl, hr0, hrs0, hb5⟩
            have hsz5 := hb5.size
            have big5 := hbigr.below hb5
            have T5 := hTr.below hb5
            have bel5 : Hid (Below w1.heap.size w1 w5) := hbel.out.trans (hb5.mono hszr)
            clear hb5
            have Hop : Hid ((x ++ ((⟨#[99]⟩ : ByteArray) ++ r0)).data.toList = CL.bopen 0 x.data.toList i) := by
              show (x ++ ((⟨#[99]⟩ : ByteArray) ++ r0)).data.toList = CL.bopen 0 x.data.toList i
              rw [app_bytes, app_bytes, hr0.out, Hx0.out]; rfl
            by_cases hbn : CL.tb ws (i + 1) = true
            · have hz2 := bitI_true hbn
              have Hst : Hid (CL.BInv l (i + 1) (0 + 1) ((x ++ ((⟨#[99]⟩ : ByteArray) ++ r0))).data.toList) := by
                show CL.BInv l (i + 1) (0 + 1) ((x ++ ((⟨#[99]⟩ : ByteArray) ++ r0))).data.toList
                rw [Hop.out]; exact hinv.out.more Hg.out Hmem.out ((Hl.out _).1 hbn)
              clear hbn
              go_wp2_with fail
              refine (big_bit _ b B ws big5 (i + 1) _ (by push_cast; rfl) (by omega)).mono ?_
              rw [hz2]
              clear hz2
              rintro e w6 ⟨rfl, rfl⟩
              go_wp2_with fail
              go_roundg (gk - 1)
              case measure => have := hm.out; omega
              case rel => have := hm.out; exact ⟨i + 1, 0 + 1, _, rfl, by go_num, by go_num, (show _ = _ by omega), by omega, by omega, by simp only [ByteArray.size_append]; show _ + (1 + _) ≤ _; omega, Hst, bel5⟩
            · have hbf2 : CL.tb ws (i + 1) = false := by simpa using hbn
              have hz2 := bitI_false hbf2
              have hst := hinv.out.last Hg.out Hmem.out (fun h => hbn ((Hl.out _).2 h))
              clear hbn hbf2
              go_wp2_with fail
              refine (big_bit _ b B ws big5 (i + 1) _ (by push_cast; rfl) (by omega)).mono ?_
              rw [hz2]
              clear hz2
              rintro e w6 ⟨rfl, rfl⟩
              have Hst : Hid (CL.BInv l (i + 1) 0 ((x ++ ((⟨#[99]⟩ : ByteArray) ++ r0))).data.toList) := by
                show CL.BInv l (i + 1) 0 ((x ++ ((⟨#[99]⟩ : ByteArray) ++ r0))).data.toList
                rw [Hop.out]; simpa [CL.bclose] using hst
              clear hst
              go_wp2_with fail
              go_roundg (gk - 1)
              case measure => have := hm.out; omega
              case rel => have := hm.out; exact ⟨i + 1, 0, _, rfl, rfl, by go_num, (show _ = _ by omega), by omega, by omega, by simp only [ByteArray.size_append]; show _ + (1 + _) ≤ _; omega, Hst, bel5⟩
          · obtain ⟨hx1, hx2⟩ := str_some x hx0
            have Hx0 : Hid (x.data.toList ≠ []) := hx0
            clear hx0
            go_wp2_with fail
            refine (itoa_nat i _ rfl (by omega) _ hTr).mono ?_
            rintro e w5 ⟨r0, rfl, hr0, hrs0, hb5⟩
            have hsz5 := hb5.size
            have big5 := hbigr.below hb5
            have T5 := hTr.below hb5
            have bel5 : Hid (Below w1.heap.size w1 w5) := hbel.out.trans (hb5.mono hszr)
            clear hb5
            have Hop : Hid ((x ++ (⟨#[44]⟩ : ByteArray) ++ ((⟨#[99]⟩ : ByteArray) ++ r0)).data.toList = CL.bopen 0 x.data.toList i) := by
              show (x ++ (⟨#[44]⟩ : ByteArray) ++ ((⟨#[99]⟩ : ByteArray) ++ r0)).data.toList = CL.bopen 0 x.data.toList i
              rw [app_bytes, app_bytes, app_bytes, hr0.out]
              simp [CL.bopen, CL.comma, Hx0.out]
            by_cases hbn : CL.tb ws (i + 1) = true
            · have hz2 := bitI_true hbn
              have Hst : Hid (CL.BInv l (i + 1) (0 + 1) ((x ++ (⟨#[44]⟩ : ByteArray) ++ ((⟨#[99]⟩ : ByteArray) ++ r0))).data.toList) := by
                show CL.BInv l (i + 1) (0 + 1) ((x ++ (⟨#[44]⟩ : ByteArray) ++ ((⟨#[99]⟩ : ByteArray) ++ r0))).data.toList
                rw [Hop.out]; exact hinv.out.more Hg.out Hmem.out ((Hl.out _).1 hbn)
              clear hbn
              go_wp2_with fail
              refine (big_bit _ b B ws big5 (i + 1) _ (by push_cast; rfl) (by omega)).mono ?_
              rw [hz2]
              clear hz2
              rintro e w6 ⟨rfl, rfl⟩
              go_wp2_with fail
              go_roundg (gk - 1)
              case measure => have := hm.out; omega
              case rel => have := hm.out; exact ⟨i + 1, 0 + 1, _, rfl, by go_num, by go_num, (show _ = _ by omega), by omega, by omega, by simp only [ByteArray.size_append]; show _ + 1 + (1 + _) ≤ _; omega, Hst, bel5⟩
            · have hbf2 : CL.tb ws (i + 1) = false := by simpa using hbn
              have hz2 := bitI_false hbf2
              have hst := hinv.out.last Hg.out Hmem.out (fun h => hbn ((Hl.out _).2 h))
              clear hbn hbf2
              go_wp2_with fail
              refine (big_bit _ b B ws big5 (i + 1) _ (by push_cast; rfl) (by omega)).mono ?_
              rw [hz2]
              clear hz2
              rintro e w6 ⟨rfl, rfl⟩
              have Hst : Hid (CL.BInv l (i + 1) 0 ((x ++ (⟨#[44]⟩ : ByteArray) ++ ((⟨#[99]⟩ : ByteArray) ++ r0))).data.toList) := by
                show CL.BInv l (i + 1) 0 ((x ++ (⟨#[44]⟩ : ByteArray) ++ ((⟨#[99]⟩ : ByteArray) ++ r0))).data.toList
                rw [Hop.out]; simpa [CL.bclose] using hst
              clear hst
              go_wp2_with fail
              go_roundg (gk - 1)
              case measure => have := hm.out; omega
              case rel => have := hm.out; exact ⟨i + 1, 0, _, rfl, rfl, by go_num, (show _ = _ by omega), by omega, by omega, by simp only [ByteArray.size_append]; show _ + 1 + (1 + _) ≤ _; omega, Hst, bel5⟩
        · have hk0b : ((k : Int) == 0) = false := by simp; omega
          have big5 := hbigr
          have T5 := hTr
          have bel5 := hbel
          have hsz5 := hszr
          have Hop : Hid (x.data.toList = CL.bopen k x.data.toList i) := by show _ = _; simp [CL.bopen, hk0]
          by_cases hbn : CL.tb ws (i + 1) = true
          · have hz2 := bitI_true hbn
            have Hst : Hid (CL.BInv l (i + 1) (k + 1) (x).data.toList) := by
              show CL.BInv l (i + 1) (k + 1) (x).data.toList
              rw [Hop.out]; exact hinv.out.more Hg.out Hmem.out ((Hl.out _).1 hbn)
            clear hbn
            go_wp2_with fail
            refine (big_bit _ b B ws big5 (i + 1) _ (by push_cast; rfl) (by omega)).mono ?_
            rw [hz2]
            clear hz2
            rintro e w6 ⟨rfl, rfl⟩
            go_wp2_with fail
            go_roundg (gk - 1)
            case measure => have := hm.out; omega
            case rel => have := hm.out; exact ⟨i + 1, k + 1, _, rfl, by go_num, by go_num, (show _ = _ by omega), by omega, by omega, by omega, Hst, bel5⟩
          · have hbf2 : CL.tb ws (i + 1) = false := by simpa using hbn
            have hz2 := bitI_false hbf2
            have hst := hinv.out.last Hg.out Hmem.out (fun h => hbn ((Hl.out _).2 h))
            clear hbn hbf2
            go_wp2_with fail
            refine (big_bit _ b B ws big5 (i + 1) _ (by push_cast; rfl) (by omega)).mono ?_
            rw [hz2]
            clear hz2
            rintro e w6 ⟨rfl, rfl⟩
            by_cases hk1 : k = 1
            · have hk1b : ((k : Int) == 1) = true := by simp; omega
              have Hk1 : Hid (k = 1) := hk1
              clear hk1
              go_wp2_with fail
              refine (itoa_nat i _ rfl (by omega) _ T5).mono ?_
              rintro e w7 ⟨r, rfl, hr, hrs, hb7⟩
              have hsz7 := hb7.size
              have Hst : Hid (CL.BInv l (i + 1) 0 (x ++ ((⟨#[44, 99]⟩ : ByteArray) ++ r)).data.toList) := by
                show CL.BInv l (i + 1) 0 (x ++ ((⟨#[44, 99]⟩ : ByteArray) ++ r)).data.toList
                rw [← Hop.out] at hst
                rw [app_bytes, app_bytes, hr.out]
                have e := hst
                rw [Hk1.out] at e
                simpa [CL.bclose] using e
              have Hb7 : Hid (Below w1.heap.size w1 w7) := bel5.out.trans (hb7.mono (by omega))
              clear hst hb7
              go_wp2_with fail
              go_roundg (gk - 1)
              case measure => have := hm.out; omega
              case rel => have := hm.out; exact ⟨i + 1, 0, _, rfl, rfl, by go_num, (show _ = _ by omega), by omega, by omega, by simp only [ByteArray.size_append]; show _ + (2 + _) ≤ _; omega, Hst, Hb7⟩
            · have hk1b : ((k : Int) == 1) = false := by simp; omega
              have hk2 : 1 < k := by omega
              go_wp2_with fail
              refine (itoa_nat i _ rfl (by omega) _ T5).mono ?_
              rintro e w7 ⟨r, rfl, hr, hrs, hb7⟩
              have hsz7 := hb7.size
              have Hst : Hid (CL.BInv l (i + 1) 0 (x ++ ((⟨#[46, 99]⟩ : ByteArray) ++ r)).data.toList) := by
                show CL.BInv l (i + 1) 0 (x ++ ((⟨#[46, 99]⟩ : ByteArray) ++ r)).data.toList
                rw [← Hop.out] at hst
                rw [app_bytes, app_bytes, hr.out]
                simpa [CL.bclose, hk1, hk2] using hst
              have Hb7 : Hid (Below w1.heap.size w1 w7) := bel5.out.trans (hb7.mono (by omega))
              clear hst hb7
              go_wp2_with fail
              go_roundg (gk - 1)
              case measure => have := hm.out; omega
              case rel => have := hm.out; exact ⟨i + 1, 0, _, rfl, rfl, by go_num, (show _ = _ by omega), by omega, by omega, by simp only [ByteArray.size_append]; show _ + (2 + _) ≤ _; omega, Hst, Hb7⟩
      · have hbf : CL.tb ws i = false := by simpa using hbi
        have hz0 := bitI_false hbf
        have hsk := hinv.out.skip (fun h => hbi ((Hl.out i).2 h))
        have Hsk : Hid (CL.BInv l (i + 1) k x.data.toList) := hsk.2
        clear hsk hbi hbf
        go_wp2_with fail
        refine (big_bit _ b B ws hbigr i _ rfl (by omega)).mono ?_
        rw [hz0]
        clear hz0
        rintro e w3 ⟨rfl, rfl⟩
        go_wp2_with fail
        go_roundg (gk - 1)
        case measure => have := hm.out; omega
        case rel => have := hm.out; exact ⟨i + 1, k, x, rfl, rfl, by go_num, (show _ = _ by omega), by omega, by omega, by omega, Hsk, hbel⟩
    · have Hfin : Hid (x.data.toList = CL.catsT l) := hinv.out.done (fun y hy => by
        by_cases h : m ≤ y
        · have h1 := Hbl.out.1 y h
          have h2 := (Hl.out y).2 hy
          rw [h1] at h2; exact absurd h2 (by decide)
        · omega)
      go_wp2_with fail
      go_ret
      exact ⟨x, rfl, Hfin, by omega, hbel.out⟩
end Go.Proofs.YtdmggcbbfljciaaGreatDoor
