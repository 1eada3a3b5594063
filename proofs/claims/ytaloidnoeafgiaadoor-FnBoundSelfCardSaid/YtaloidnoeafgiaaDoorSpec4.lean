/- spec.Level.Text, spec.Level.Loose. -/
import Derived.Test.YtaloidnoeafgiaaDoorSpec3
namespace Go.Proofs.YtaloidnoeafgiaaDoor
open Go.RowKit Go.Lib

theorem catsT_nil (ns : List Nat) : CL.catsT ns = [] ↔ ns = [] := by
  constructor
  · intro h
    cases ns with
    | nil => rfl
    | cons a l => exact absurd h (CL.tks_ne _ (CL.toksOf_ne _ (by simp)))
  · intro h; subst h; simp [CL.catsT, CL.toksOf, CL.tks, CL.joinC]

set_option maxRecDepth 100000 in
set_option maxHeartbeats 2000000 in
theorem level_text (s : Nat) (hs : s ≤ 9999) (ao : Option Addr) (ns : List Nat) (c : Nat) (w : World) (h : NatsAt w ao ns) (h9 : ∀ x ∈ ns, x ≤ 9999) (hl : ns.length ≤ 500) :
    Calls Tryd.prog 40 #[.agg #[.int .i64 s, .slice ao ns.length c]] w fun e w' => ∃ r : ByteArray, e = .returned (.string r) ∧ Hid (r.data.toList = CL.lvT s (CL.toksOf ns)) ∧ r.size ≤ 15020000 ∧ Below w.heap.size w w' := by
  have H0 : Hid (Below w.heap.size w (w.alloc (.cells #[.int .i64 s, .slice ao ns.length c] 24))) := (Below.refl _ _).alloc (Nat.le_refl _) _
  have Hn := Lib.hid h
  have H9 := Lib.hid h9
  have hdA := decimal_any s (Nat.le_trans hs (by decide))
  clear h h9
  go_enter Tryd.func40, Tryd.ntmps40
  go_wp2_with fail
  refine (hdA _).mono ?_
  rintro e w2 ⟨r1, rfl, hr1, hb2⟩
  have hz1 : r1.size ≤ 10000 := by have := dec_len s; rw [Lib.size_eq, hr1.out]; omega
  have hbx : w2.heap[w.heap.size]? = some (.cells #[.int .i64 s, .slice ao ns.length c] 24 (0, 0)) := by
    rw [hb2.block w.heap.size (by simp)]; exact heap_alloc_new _ _
  have c1 := row_cell (l := [.int .i64 s, .slice ao ns.length c]) hbx (j := 1) rfl
  have Hb : Hid (Below w.heap.size w w2) := H0.out.trans (hb2.mono (by simp))
  clear hbx hb2 hdA
  go_wp2_with fail
  refine (cats_spec _ _ _ _ (Hn.out.below Hb.out) H9.out hl).mono ?_
  rintro e w3 ⟨r2, rfl, hr2, hz2, hb3⟩
  have Hb3 : Hid (Below w.heap.size w w3) := Hb.out.trans (hb3.mono Hb.out.size)
  clear hb3 c1
  by_cases hne : ns = []
  · have ho2 := str_nil r2 (by rw [hr2.out]; exact (catsT_nil ns).2 hne)
    have Hne := Lib.hid hne
    clear hne
    go_wp2_with fail
    go_ret
    refine ⟨_, rfl, ?_, ?_, Hb3.out⟩
    · show _ = _
      rw [app_bytes, hr1.out, CL.lvT, if_pos (by rw [Hne.out]; simp [CL.toksOf])]
      simp
    · rw [ByteArray.size_append]; show 1 + _ ≤ _; omega
  · have ho2 := str_some r2 (by rw [hr2.out]; exact fun e => hne ((catsT_nil ns).1 e))
    have Hne := Lib.hid hne
    clear hne
    go_wp2_with fail
    go_ret
    refine ⟨_, rfl, ?_, ?_, Hb3.out⟩
    · show _ = _
      rw [app_bytes, app_bytes, app_bytes, hr1.out, hr2.out, CL.lvT, if_neg (CL.toksOf_ne _ Hne.out)]
      simp [CL.catsT]
    · rw [ByteArray.size_append, ByteArray.size_append, ByteArray.size_append]; show 1 + _ + (1 + _) ≤ _; omega

/-- the text of a loose level, behind k of its categories -/
def looseT (s : Nat) (ns : List Nat) (k : Nat) : List UInt8 := 115 :: decDigits s ++ (if k = 0 then [] else 58 :: CL.tks ((CL.looseP ns).take k))

theorem looseT_first (s : Nat) (ns : List Nat) (k : Nat) (hk : k = 0) (h : k < ns.length) : looseT s ns (k + 1) = looseT s ns k ++ 58 :: 99 :: decDigits (ns.getD (ns.length - 1 - k) 0) := by
  subst hk
  have h1 := CL.looseP_take ns 0 h
  simp only [looseT, if_neg (Nat.succ_ne_zero 0), if_pos]
  rw [h1]
  simp [CL.tks_one]

theorem looseT_more (s : Nat) (ns : List Nat) (k : Nat) (hk : k ≠ 0) (h : k < ns.length) : looseT s ns (k + 1) = looseT s ns k ++ 44 :: 99 :: decDigits (ns.getD (ns.length - 1 - k) 0) := by
  have h1 := CL.looseP_take ns k h
  have hne : (CL.looseP ns).take k ≠ [] := by
    intro e
    have h2 : ((CL.looseP ns).take k).length = k := by simp [CL.looseP]; omega
    rw [e] at h2
    exact hk h2.symm
  simp only [looseT, if_neg (Nat.succ_ne_zero k), if_neg hk]
  rw [h1, CL.tks_append _ _ hne (by simp), CL.tks_one]
  simp

theorem looseT_all (s : Nat) (ns : List Nat) : looseT s ns ns.length = CL.lvT s (CL.looseP ns) := by
  unfold looseT CL.lvT
  by_cases h : ns = []
  · subst h; simp [CL.looseP]
  · rw [if_neg (fun e => h (List.eq_nil_of_length_eq_zero e)), if_neg (CL.looseP_ne _ h), List.take_of_length_le (by simp [CL.looseP])]

set_option maxRecDepth 100000 in
set_option maxHeartbeats 2000000 in
theorem level_loose (s : Nat) (hs : s ≤ 9999) (ao : Option Addr) (ns : List Nat) (c : Nat) (w : World) (h : NatsAt w ao ns) (h9 : ∀ x ∈ ns, x ≤ 9999) (hl : ns.length ≤ 500) :
    Calls Tryd.prog 15 #[.agg #[.int .i64 s, .slice ao ns.length c]] w fun e w' => ∃ r : ByteArray, e = .returned (.string r) ∧ Hid (r.data.toList = CL.lvT s (CL.looseP ns)) ∧ r.size ≤ 15020000 ∧ Below w.heap.size w w' := by
  have H0 : Hid (Below w.heap.size w (w.alloc (.cells #[.int .i64 s, .slice ao ns.length c] 24))) := (Below.refl _ _).alloc (Nat.le_refl _) _
  have Hn := Lib.hid h
  have H9 := Lib.hid h9
  have hdA := decimal_any s (Nat.le_trans hs (by decide))
  clear h h9
  go_enter Tryd.func15, Tryd.ntmps15
  go_wp2_with fail
  refine (hdA _).mono ?_
  rintro e w2 ⟨r1, rfl, hr1, hb2⟩
  have hz1 : r1.size ≤ 10000 := by have := dec_len s; rw [Lib.size_eq, hr1.out]; omega
  have hbx : Hid (w2.heap[w.heap.size]? = some (.cells #[.int .i64 s, .slice ao ns.length c] 24 (0, 0))) := by
    show _ = _
    rw [hb2.block w.heap.size (by simp)]; exact heap_alloc_new _ _
  have c1 := row_cell (l := [.int .i64 s, .slice ao ns.length c]) hbx.out (j := 1) rfl
  have Hb : Hid (Below w.heap.size w w2) := H0.out.trans (hb2.mono (by simp))
  have Hlt : Hid (w.heap.size < w2.heap.size) := (Array.getElem?_eq_some_iff.1 hbx.out).1
  have Ho : Hid ((⟨#[115]⟩ ++ r1 : ByteArray).data.toList = looseT s ns 0) := by
    show _ = _
    rw [app_bytes, hr1.out]; simp [looseT]
  have Hos : Hid ((⟨#[115]⟩ ++ r1 : ByteArray).size ≤ 20000 + 30000 * 0) := by
    show _ ≤ _
    rw [ByteArray.size_append]; show 1 + _ ≤ _; omega
  clear hb2 hdA
  go_wp2_with fail
  generalize (⟨#[115]⟩ ++ r1 : ByteArray) = o0 at *
  clear c1 hr1 hz1
  go_loopg [3, 12] (ns.length + 1) (fun m ov iv wr => ∃ (o : ByteArray) (k : Nat), ov = .string o ∧ iv = .int .i64 k ∧ Hid (m + k = ns.length + 1) ∧ Hid (k ≤ ns.length) ∧ Hid (o.data.toList = looseT s ns k) ∧ Hid (o.size ≤ 20000 + 30000 * k) ∧ Hid (Below w2.heap.size w2 wr))
  case atStart => exact ⟨o0, 0, rfl, rfl, rfl, Nat.zero_le _, Ho, Hos, Below.refl _ _⟩
  case round =>
    obtain ⟨o, k, rfl, rfl, hm, hk, ho, hos, hbo⟩ := hrel
    have hos2 : o.size ≤ 15020000 := by have := hos.out; have := hk.out; omega
    have hbx2 : wr.heap[w.heap.size]? = some (.cells #[.int .i64 s, .slice ao ns.length c] 24 (0, 0)) := by
      rw [hbo.out.block w.heap.size Hlt.out]; exact hbx.out
    have c1 := row_cell (l := [.int .i64 s, .slice ao ns.length c]) hbx2 (j := 1) rfl
    have Hbw : Hid (Below w.heap.size w wr) := Hb.out.trans (hbo.out.mono Hb.out.size)
    clear hbx2
    by_cases hkn : k < ns.length
    · have hlt : decide ((k : Int) < (ns.length : Int)) = true := by simp; omega
      have hq0 : 0 ≤ ns.length - 1 - k := Nat.zero_le _
      have hw1 : IntKind.i64.wrap ((ns.length : Int) - 1) = (ns.length : Int) - 1 := by rw [IntKind.wrap_i64]; omega
      have hw2 : IntKind.i64.wrap ((ns.length : Int) - 1 - (k : Int)) = ((ns.length - 1 - k : Nat) : Int) := by rw [IntKind.wrap_i64]; omega
      obtain ⟨t, ht⟩ : ∃ t, t = ns.length - 1 - k := ⟨_, rfl⟩
      have htn : t < ns.length := by omega
      rw [← ht] at hw2
      obtain ⟨x, rfl, hx, hc⟩ := (Hn.out.below Hbw.out) t htn
      obtain ⟨b, hb⟩ : ∃ b, b = ns.getD t 0 := ⟨_, rfl⟩
      have hB : b ≤ 9999 := by rw [hb]; exact getD_le H9.out t
      rw [← hb] at hc
      have hdB := decimal_any b (Nat.le_trans hB (by decide))
      have Hbt : Hid (b = ns.getD (ns.length - 1 - k) 0) := by show _ = _; rw [hb, ht]
      clear hb ht
      have hp1 : (0 : Int) ≤ (t : Int) := by omega
      have hp2 : (t : Int) < (ns.length : Int) := by omega
      by_cases hk0 : k = 0
      · have Hk0 := Lib.hid hk0
        have hkb : ((k : Int) == 0) = true := by simp; omega
        clear hk0
        go_wp2_with fail
        refine (hdB _).mono ?_
        rintro e w3 ⟨r2, rfl, hr2, hb3⟩
        have hz2 : r2.size ≤ 10000 := by have := dec_len b; rw [Lib.size_eq, hr2.out]; omega
        have Hb3 : Hid (Below w2.heap.size w2 w3) := hbo.out.trans (hb3.mono hbo.out.size)
        have Hby : Hid ((o ++ ⟨#[58]⟩ ++ (⟨#[99]⟩ ++ r2) : ByteArray).data.toList = looseT s ns (k + 1)) := by
          show _ = _
          rw [app_bytes, app_bytes, app_bytes, ho.out, hr2.out, looseT_first s ns k Hk0.out hkn, ← Hbt.out]
          simp
        have Hsz : Hid ((o ++ ⟨#[58]⟩ ++ (⟨#[99]⟩ ++ r2) : ByteArray).size ≤ 20000 + 30000 * (k + 1)) := by
          show _ ≤ _
          have := hos.out
          rw [ByteArray.size_append, ByteArray.size_append, ByteArray.size_append]
          show _ + 1 + (1 + _) ≤ _
          omega
        go_wp2_with fail
        go_roundg (gk - 1)
        case measure => have := hm.out; have := hk.out; omega
        case rel =>
          have e1 := hm.out
          exact ⟨_, k + 1, rfl, by go_num, show _ = _ by omega, show _ ≤ _ by omega, Hby, Hsz, Hb3⟩
      · have hkb : ((k : Int) == 0) = false := by simp; omega
        have Hk0 := Lib.hid hk0
        clear hk0
        go_wp2_with fail
        refine (hdB _).mono ?_
        rintro e w3 ⟨r2, rfl, hr2, hb3⟩
        have hz2 : r2.size ≤ 10000 := by have := dec_len b; rw [Lib.size_eq, hr2.out]; omega
        have Hb3 : Hid (Below w2.heap.size w2 w3) := hbo.out.trans (hb3.mono hbo.out.size)
        have Hby : Hid ((o ++ ⟨#[44]⟩ ++ (⟨#[99]⟩ ++ r2) : ByteArray).data.toList = looseT s ns (k + 1)) := by
          show _ = _
          rw [app_bytes, app_bytes, app_bytes, ho.out, hr2.out, looseT_more s ns k Hk0.out hkn, ← Hbt.out]
          simp
        have Hsz : Hid ((o ++ ⟨#[44]⟩ ++ (⟨#[99]⟩ ++ r2) : ByteArray).size ≤ 20000 + 30000 * (k + 1)) := by
          show _ ≤ _
          have := hos.out
          rw [ByteArray.size_append, ByteArray.size_append, ByteArray.size_append]
          show _ + 1 + (1 + _) ≤ _
          omega
        go_wp2_with fail
        go_roundg (gk - 1)
        case measure => have := hm.out; have := hk.out; omega
        case rel =>
          have e1 := hm.out
          exact ⟨_, k + 1, rfl, by go_num, show _ = _ by omega, show _ ≤ _ by omega, Hby, Hsz, Hb3⟩
    · have hlt : decide ((k : Int) < (ns.length : Int)) = false := by simp; omega
      have Hke : Hid (k = ns.length) := by have := hk.out; show k = ns.length; omega
      go_wp2_with fail
      go_ret
      refine ⟨_, rfl, ?_, hos2, Hbw.out⟩
      show _ = _
      rw [ho.out, Hke.out]; exact looseT_all s ns
end Go.Proofs.YtaloidnoeafgiaaDoor
