/- spec.fourth, spec.sixth, spec.numbers. -/
import Derived.Test.YtdmggcbbfljciaaGreatDoorG6
namespace Go.Proofs.YtdmggcbbfljciaaGreatDoor
open Go.RowKit Go.Lib

theorem f4_told {l : List UInt8} {n g d : Nat} (h : F4.At l l.length n g d) : F4.Is l ↔ g = 4 ∧ 0 < d := by
  unfold F4.At at h
  rw [List.take_length] at h
  constructor
  · rintro ⟨n', d', h1, h2⟩
    rw [h] at h1
    simp only [Option.some.injEq, Prod.mk.injEq] at h1
    omega
  · rintro ⟨rfl, hd⟩
    exact ⟨n, d, h, hd⟩

set_option maxRecDepth 100000 in
set_option maxHeartbeats 4000000 in
theorem fourth_any (s : ByteArray) (hl : s.size ≤ 140737488355328) (w : World) :
    Calls Tryz.prog 21 #[.string s] w fun e w' => Told e (F4.Is s.data.toList) ∧ w' = w := by
  have HL : Hid (s.size = s.data.toList.length) := Lib.size_eq s
  go_enter Tryz.func21, Tryz.ntmps21
  go_wp2
  go_loopg [3, 4, 5, 10] (s.size + 1) (fun m nv gv dv iv wr => ∃ (n g d i : Nat), nv = .int .i64 n ∧ gv = .int .i64 g ∧ dv = .int .i64 d ∧ iv = .int .i64 i ∧ Hid (m + i = s.size + 1) ∧ Hid (i ≤ s.size) ∧ Hid (F4.At s.data.toList i n g d) ∧ n ≤ 255 ∧ d ≤ 3 ∧ Hid (g ≤ i + 1) ∧ wr = w)
  case atStart => exact ⟨0, 1, 0, 0, rfl, rfl, rfl, rfl, rfl, Nat.zero_le _, F4.At.zero _, by omega, by omega, (show _ ≤ _ by omega), rfl⟩
  case round =>
    obtain ⟨n, g, d, i, rfl, rfl, rfl, rfl, hm, hi, hat, hn, hd3, hg, rfl⟩ := hrel
    have hg2 : g ≤ 140737488355330 := by have := hg.out; have := hi.out; omega
    by_cases hin : i < s.size
    · have hlt : decide ((i : Int) < (s.size : Int)) = true := by simp; omega
      have Hx : Hid ((s.data.toList.getD i 0).toNat = (s[i]'hin).toNat) := (byte_get s i hin).symm
      have HI : Hid (i < s.data.toList.length) := (show _ < _ by rw [← HL.out]; exact hin)
      have hc256 : (s[i]'hin).toNat < 256 := (s[i]'hin).toNat_lt
      by_cases hdot : (s[i]'hin).toNat = 46
      · have b1 : (((s[i]'hin).toNat : Int) == 46) = true := by simp; omega
        by_cases hd0 : d = 0
        · subst hd0
          have Hno : Hid (¬ F4.Is s.data.toList) := by
            intro h
            rcases h.next hat.out HI.out with ⟨_, h2, _⟩ | ⟨h1, _⟩
            · omega
            · have h1 := Nat.le_trans h1 (Nat.le_of_eq Hx.out); omega
          go_wp2
          go_ret
          exact ⟨Told.f Hno.out, rfl⟩
        · have b2 : ((d : Int) == 0) = false := by simp; omega
          have Hn : Hid (F4.At s.data.toList (i + 1) 0 (g + 1) 0) := by
            show F4.run _ _ = _
            have hxd : (s.data.toList.getD i 0).toNat = 46 := Hx.out.trans hdot
            rw [hat.out.next HI.out, hxd]
            simp [F4.step, hd0]
          go_wp2
          go_roundg (gk - 1)
          case measure => have := hm.out; have := hi.out; omega
          case rel =>
            have e1 := hm.out
            have e2 := hg.out
            exact ⟨0, g + 1, 0, i + 1, rfl, by go_num, rfl, by go_num, show _ = _ by omega, show _ ≤ _ by omega, Hn, by omega, by omega, show _ ≤ _ by omega, rfl⟩
      · have b1 : (((s[i]'hin).toNat : Int) == 46) = false := by simp; omega
        by_cases h48 : 48 ≤ (s[i]'hin).toNat ∧ (s[i]'hin).toNat ≤ 57
        · obtain ⟨h48, h57⟩ := h48
          have b3 : decide (((s[i]'hin).toNat : Int) ≥ 48) = true := by simp; omega
          have b4 : decide (((s[i]'hin).toNat : Int) ≤ 57) = true := by simp; omega
          have HS : Hid (∀ st, F4.step n g d (s[i]'hin).toNat = some st → F4.run (s.data.toList.take (i + 1)) (0, 1, 0) = some st) := by
            intro st h
            exact (hat.out.next HI.out).trans ((congrArg (F4.step n g d) Hx.out).trans h)
          by_cases hz : 0 < d ∧ n = 0
          · obtain ⟨hz1, rfl⟩ := hz
            have b5 : decide ((d : Int) > 0) = true := by simp; omega
            have Hno : Hid (¬ F4.Is s.data.toList) := by
              intro h
              rcases h.next hat.out HI.out with ⟨h1, _⟩ | ⟨_, _, h3, _⟩
              · have h1 := Hx.out.symm.trans h1; omega
              · exact h3 ⟨hz1, rfl⟩
            go_wp2
            go_ret
            exact ⟨Told.f Hno.out, rfl⟩
          · by_cases hbig : 10 * n + ((s[i]'hin).toNat - 48) > 255
            · have Hno : Hid (¬ F4.Is s.data.toList) := by
                intro h
                rcases h.next hat.out HI.out with ⟨h1, _⟩ | ⟨_, _, _, h4, _⟩
                · have h1 := Hx.out.symm.trans h1; omega
                · have h4 : 10 * n + ((s[i]'hin).toNat - 48) ≤ 255 := by have e := Hx.out; rw [← e]; exact h4
                  omega
              have b6 : decide (10 * (n : Int) + (((s[i]'hin).toNat : Int) - 48) > 255) = true := by simp; omega
              have b6n : 255 < 10 * (n : Int) + (((s[i]'hin).toNat : Int) - 48) := by omega
              by_cases hd0 : d = 0
              · subst hd0
                go_wp2
                go_ret
                exact ⟨Told.f Hno.out, rfl⟩
              · have b5 : decide ((d : Int) > 0) = true := by simp; omega
                have b7 : ((n : Int) == 0) = false := by simp; omega
                go_wp2
                go_ret
                exact ⟨Told.f Hno.out, rfl⟩
            · have b6 : decide (10 * (n : Int) + (((s[i]'hin).toNat : Int) - 48) > 255) = false := by simp; omega
              have b6n : 10 * (n : Int) + (((s[i]'hin).toNat : Int) - 48) ≤ 255 := by omega
              have Hn : Hid (F4.At s.data.toList (i + 1) (10 * n + ((s[i]'hin).toNat - 48)) g (d + 1)) := by
                refine HS.out _ ?_
                unfold F4.step
                rw [if_neg hdot, if_pos ⟨h48, h57⟩, if_neg (fun e => by rcases e with e | e; exact hz e; exact hbig e)]
              have Hl := Lib.hid (Hn.out.len HI.out)
              by_cases hd0 : d = 0
              · subst hd0
                go_wp2
                go_roundg (gk - 1)
                case measure => have := hm.out; have := hi.out; omega
                case rel =>
                  have e1 := hm.out
                  have e2 := hg.out
                  have e3 := Hl.out
                  exact ⟨10 * n + ((s[i]'hin).toNat - 48), g, 0 + 1, i + 1, (by congr 1; omega), rfl, by go_num, by go_num, show _ = _ by omega, show _ ≤ _ by omega, Hn, by omega, by omega, show _ ≤ _ by omega, rfl⟩
              · have b5 : decide ((d : Int) > 0) = true := by simp; omega
                have b7 : ((n : Int) == 0) = false := by simp; omega
                go_wp2
                go_roundg (gk - 1)
                case measure => have := hm.out; have := hi.out; omega
                case rel =>
                  have e1 := hm.out
                  have e2 := hg.out
                  have e3 := Hl.out
                  exact ⟨10 * n + ((s[i]'hin).toNat - 48), g, d + 1, i + 1, (by congr 1; omega), rfl, by go_num, by go_num, show _ = _ by omega, show _ ≤ _ by omega, Hn, by omega, by omega, show _ ≤ _ by omega, rfl⟩
        · have Hno : Hid (¬ F4.Is s.data.toList) := by
            intro h
            rcases h.next hat.out HI.out with ⟨h1, _⟩ | ⟨h1, h2, _⟩
            · have h1 := Hx.out.symm.trans h1; omega
            · exact h48 ⟨Nat.le_trans h1 (Nat.le_of_eq Hx.out), Nat.le_trans (Nat.le_of_eq Hx.out.symm) h2⟩
          by_cases hlow : (s[i]'hin).toNat < 48
          · have b3 : decide (((s[i]'hin).toNat : Int) ≥ 48) = false := by simp; omega
            go_wp2
            go_ret
            exact ⟨Told.f Hno.out, rfl⟩
          · have b3 : decide (((s[i]'hin).toNat : Int) ≥ 48) = true := by simp; omega
            have b4 : decide (((s[i]'hin).toNat : Int) ≤ 57) = false := by simp; omega
            go_wp2
            go_ret
            exact ⟨Told.f Hno.out, rfl⟩
    · have hlt : decide ((i : Int) < (s.size : Int)) = false := by simp; omega
      have Ht : Hid (F4.Is s.data.toList ↔ g = 4 ∧ 0 < d) := by
        refine f4_told (n := n) ?_
        have e : i = s.data.toList.length := by have := hi.out; rw [← HL.out]; omega
        rw [← e]; exact hat.out
      by_cases hg4 : g = 4
      · subst hg4
        have b1 : ((4 : Int) == 4) = true := by decide
        by_cases hd0 : d = 0
        · subst hd0
          go_wp2
          go_ret
          exact ⟨Told.f (fun e => by have := Ht.out.1 e; omega), rfl⟩
        · have b2 : decide ((d : Int) > 0) = true := by simp; omega
          have b2n : decide (0 < d) = true := decide_eq_true (by omega)
          go_wp2
          go_ret
          exact ⟨Told.t (Ht.out.2 (by first | exact ⟨rfl, by omega⟩ | (simp; omega))), rfl⟩
      · have b1 : ((g : Int) == 4) = false := by simp; omega
        go_wp2
        go_ret
        exact ⟨Told.f (fun e => by have := Ht.out.1 e; omega), rfl⟩

set_option maxRecDepth 100000 in
set_option maxHeartbeats 2000000 in
theorem sixth_any (s : ByteArray) (w : World) :
    Calls Tryz.prog 22 #[.string s] w fun e w' => Told e (sixL s.data.toList) ∧ w' = w := by
  have e1 := lit_eq s [58, 58, 49]
  have e2 := lit_eq s [58, 58]
  have e3 := lit_eq s [50, 48, 48, 49, 58, 100, 98, 56, 58, 58, 49]
  have e4 := lit_eq s [102, 101, 56, 48, 58, 58, 97]
  by_cases q1 : s.data.toList = [58, 58, 49]
  · rw [decide_eq_true q1] at e1
    have H : Hid (sixL s.data.toList) := Or.inl q1
    clear q1 e2 e3 e4
    go_enter Tryz.func22, Tryz.ntmps22
    go_wp2
    go_ret
    exact ⟨Told.t H.out, rfl⟩
  rw [decide_eq_false q1] at e1
  by_cases q2 : s.data.toList = [58, 58]
  · rw [decide_eq_true q2] at e2
    have H : Hid (sixL s.data.toList) := Or.inr (Or.inl q2)
    clear q1 q2 e3 e4
    go_enter Tryz.func22, Tryz.ntmps22
    go_wp2
    go_ret
    exact ⟨Told.t H.out, rfl⟩
  rw [decide_eq_false q2] at e2
  by_cases q3 : s.data.toList = [50, 48, 48, 49, 58, 100, 98, 56, 58, 58, 49]
  · rw [decide_eq_true q3] at e3
    have H : Hid (sixL s.data.toList) := Or.inr (Or.inr (Or.inl q3))
    clear q1 q2 q3 e4
    go_enter Tryz.func22, Tryz.ntmps22
    go_wp2
    go_ret
    exact ⟨Told.t H.out, rfl⟩
  rw [decide_eq_false q3] at e3
  by_cases q4 : s.data.toList = [102, 101, 56, 48, 58, 58, 97]
  · rw [decide_eq_true q4] at e4
    have H : Hid (sixL s.data.toList) := Or.inr (Or.inr (Or.inr q4))
    clear q1 q2 q3 q4
    go_enter Tryz.func22, Tryz.ntmps22
    go_wp2
    go_ret
    exact ⟨Told.t H.out, rfl⟩
  · rw [decide_eq_false q4] at e4
    have H : Hid (¬ sixL s.data.toList) := by
      rintro (h | h | h | h)
      · exact q1 h
      · exact q2 h
      · exact q3 h
      · exact q4 h
    clear q1 q2 q3 q4
    go_enter Tryz.func22, Tryz.ntmps22
    go_wp2
    go_ret
    exact ⟨Told.f H.out, rfl⟩

theorem dec_tx (n : Nat) (hn : n ≤ 1073741824) (w : World) : Calls Tryz.prog 29 #[.int .i64 n] w fun e w' => e = .returned (.string (tx (decDigits n))) ∧ Below w.heap.size w w' := by
  refine (decimal_any n hn w).mono ?_
  rintro e w' ⟨r, rfl, hr, hb⟩
  exact ⟨by rw [tx_of hr.out], hb⟩

theorem tx_dec_size (n : Nat) (hn : n ≤ 65535) : (tx (decDigits n)).size ≤ 65536 := by
  rw [tx_size]; have := dec_len n; omega

set_option maxRecDepth 100000 in
set_option maxHeartbeats 2000000 in
theorem numbers_any (a b : Nat) (ha : a ≤ 65535) (hb : b ≤ 65535) (w : World) :
    Calls Tryz.prog 28 #[.int .i64 a, .int .i64 b] w fun e w' => e = .returned (.string (tx (numT a b))) ∧ Below w.heap.size w w' := by
  have z1 := tx_dec_size a ha
  have z2 := tx_dec_size b hb
  by_cases h : a = b
  · subst h
    have hq : ((a : Int) == (a : Int)) = true := by simp
    have e : numT a a = decDigits a := if_pos rfl
    rw [e]
    go_enter Tryz.func28, Tryz.ntmps28
    go_wp2_with fail
    refine (dec_tx a (by omega) _).mono ?_
    rintro e w2 ⟨rfl, hb2⟩
    go_wp2_with fail
    go_ret
    exact ⟨rfl, hb2⟩
  · have hq : ((a : Int) == (b : Int)) = false := by simp; omega
    have e : tx (numT a b) = tx (decDigits a) ++ ⟨#[45]⟩ ++ tx (decDigits b) := by
      rw [numT, if_neg h]
      exact (tx_of (by rw [app_bytes, app_bytes, tx_list, tx_list]; simp)).symm
    have He := Lib.hid e
    clear e h
    go_enter Tryz.func28, Tryz.ntmps28
    go_wp2_with fail
    refine (dec_tx a (by omega) _).mono ?_
    rintro e w2 ⟨rfl, hb2⟩
    go_wp2_with fail
    refine (dec_tx b (by omega) _).mono ?_
    rintro e w3 ⟨rfl, hb3⟩
    go_wp2_with fail
    go_ret
    exact ⟨by rw [He.out]; rfl, hb2.trans (hb3.mono hb2.size)⟩
end Go.Proofs.YtdmggcbbfljciaaGreatDoor
