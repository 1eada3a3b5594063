/- splitN of package nat, at a separator of one byte: the pieces. -/
import Derived.Test.YtdmggcbbfljciaaGreatDoorNCut
import Derived.Test.YtdmggcbbfljciaaGreatDoorSplit
namespace Go.Proofs.YtdmggcbbfljciaaGreatDoor
open Go.RowKit

set_option maxRecDepth 100000 in
set_option maxHeartbeats 2000000 in
theorem nsplitN_any (s : ByteArray) (c : UInt8) (n : Int) (ps : List CL.Bs) (hp : ps ≠ []) (hs : s.data.toList = CL.joinC c ps) (hno : ∀ k, k + 1 < ps.length → c ∉ ps.getD k []) (hlast : c ∉ ps.getD (ps.length - 1) [] ∨ n = ps.length) (hn : n < 0 ∨ (ps.length : Int) ≤ n) (hn2 : n ≤ 1000000) (hl : s.size ≤ 1099511627776) (w : World) :
    Calls Tryz.prog 85 #[.string s, .string ⟨#[c]⟩, .int .i64 n] w fun e w' => ∃ (v : Value) (ss : List ByteArray), e = .returned v ∧ w'.ownsRow w.heap.size 9 1 v ss.length (strsV ss) ∧ Hid (ss.map (fun x => x.data.toList) = ps) ∧ Below w.heap.size w w' := by
  obtain ⟨i0, hi, hz0, hz1, hz2⟩ := info_parts info9
  have hpl : ps.length ≤ s.size + 1 := by rw [Lib.size_eq, hs]; exact joinC_len c ps
  have hp0 := List.length_pos_iff.2 hp
  have HS : Hid (SplAt c ps 0 s []) := ⟨hp0, by simpa using hs, by simp⟩
  have hn3 : -1000000000 < n ∨ n ≤ -1000000000 := by omega
  clear hs hp
  go_enter Tryz.func85, Tryz.ntmps85
  go_wp2
  go_loopg [0, 7] (ps.length) (fun m sv ov wr => ∃ (k : Nat) (sk : ByteArray) (ss : List ByteArray), sv = .string sk ∧ m + k = ps.length ∧ ss.length = k ∧ Hid (SplAt c ps k sk ss) ∧ sk.size ≤ s.size ∧ wr.ownsRow w.heap.size 9 1 ov ss.length (strsV ss) ∧ Below w.heap.size w wr)
  case atStart => exact ⟨0, s, [], rfl, rfl, rfl, HS, Nat.le_refl _, World.ownsRow_nil _ _ _ _, Below.refl _ _⟩
  case round =>
    obtain ⟨k, sk, ss, rfl, hgk, hssk, hat, hsk, hown, hbel⟩ := hrel
    have Hgk : Hid (gk + k = ps.length) := hgk
    have Hssk : Hid (ss.length = k) := hssk
    have hkl := hat.out.lt
    have hss1 : ss.length ≤ k := by omega
    have hss2 : k ≤ ss.length := by omega
    have hws := hbel.size
    clear hgk hssk
    obtain ⟨ao, cc, rfl⟩ := owns_shape' hown
    by_cases hk : k + 1 < ps.length
    · have hc := hat.out.cons hk
      have ha := hno k hk
      obtain ⟨a, hA⟩ : ∃ a, a = ps.getD k [] := ⟨_, rfl⟩
      rw [← hA] at hc ha
      have HA : Hid (a = ps.getD k []) := hA
      have hal : a.length + 1 ≤ sk.size := by rw [Lib.size_eq, hc]; simp
      have hix := Lib.hid (nindex_hit sk c a _ hc ha (by omega))
      clear hc ha hA
      have e2 : ((a.length : Int) + 1).toNat = a.length + 1 := by omega
      have hcond : n < 0 ∨ (ss.length : Int) < n - 1 := by omega
      have fin : ∀ (v' : Value) (w2 : World), w2.ownsRow w.heap.size 9 1 v' (ss.length + 1) (strsV ss ++ [.string (sk.extract 0 a.length)]) → (wr.alloc (.cells #[.string (sk.extract 0 a.length)] 9)).grownBy w2 (Value.slice ao ss.length cc).ownBlock →
          ∃ (k' : Nat) (sk' : ByteArray) (ss' : List ByteArray), Value.string (sk.extract (a.length + 1) sk.size) = .string sk' ∧ (gk - 1) + k' = ps.length ∧ ss'.length = k' ∧ Hid (SplAt c ps k' sk' ss') ∧ sk'.size ≤ s.size ∧ w2.ownsRow w.heap.size 9 1 v' ss'.length (strsV ss') ∧ Below w.heap.size w w2 := by
        intro v' w2 hown2 hgrow2
        have h1 := Hgk.out
        have h2 := Hssk.out
        refine ⟨k + 1, _, ss ++ [sk.extract 0 a.length], rfl, by omega, by simp; omega, hat.out.step hk a.length (by rw [HA.out]), ?_, ?_, ?_⟩
        · rw [Lib.size_eq, Lib.extract_to_end, List.length_drop]
          rw [Lib.size_eq sk] at hsk
          omega
        · have e : strsV (ss ++ [sk.extract 0 a.length]) = strsV ss ++ [.string (sk.extract 0 a.length)] := by simp [strsV]
          rw [e, List.length_append]
          exact hown2
        · exact (hbel.alloc hws _).grown hgrow2 (by simp; omega) (own_block_ge hown)
      have Fin := Lib.hid fin
      clear fin
      by_cases hneg : n < 0
      · have hb1 : decide (n < 0) = true := decide_eq_true hneg
        go_wp2_with fail
        refine (hix.out _).mono ?_
        rintro e w1 ⟨rfl, rfl⟩
        go_wp2_with (at_builtin; refine wpList_append_own _ rfl (.tmp 23) (.tmp 27) 45 rfl w.heap.size 9 i0 (.string ⟨#[]⟩) 1 16 Tryz.underlying45 hi hz0 hz1 hz2 rfl (by decide) _ _ _ rfl (hown.alloc _) ⟨w1.heap.size, 0, none⟩ 1 1 [.string (sk.extract 0 a.length)] rfl rfl (cell_one_new _ _ _) (one_str _) (by unfold maxLen; omega) (by omega) (by simp; omega) ?_; intro v' w2 hown2 hgrow2 _)
        go_roundg (gk - 1)
        case measure => have := Hgk.out; omega
        case rel => exact Fin.out _ _ hown2 hgrow2
      · have hb1 : decide (n < 0) = false := decide_eq_false hneg
        have hb2 : decide ((ss.length : Int) < n - 1) = true := by simp; omega
        go_wp2_with fail
        refine (hix.out _).mono ?_
        rintro e w1 ⟨rfl, rfl⟩
        go_wp2_with (at_builtin; refine wpList_append_own _ rfl (.tmp 23) (.tmp 27) 45 rfl w.heap.size 9 i0 (.string ⟨#[]⟩) 1 16 Tryz.underlying45 hi hz0 hz1 hz2 rfl (by decide) _ _ _ rfl (hown.alloc _) ⟨w1.heap.size, 0, none⟩ 1 1 [.string (sk.extract 0 a.length)] rfl rfl (cell_one_new _ _ _) (one_str _) (by unfold maxLen; omega) (by omega) (by simp; omega) ?_; intro v' w2 hown2 hgrow2 _)
        go_roundg (gk - 1)
        case measure => have := Hgk.out; omega
        case rel => exact Fin.out _ _ hown2 hgrow2
    · have hk1 : k + 1 = ps.length := by omega
      have hsl := hat.out.last hk1
      have fin : ∀ (v' : Value) (w2 : World), w2.ownsRow w.heap.size 9 1 v' (ss.length + 1) (strsV ss ++ [.string sk]) → (wr.alloc (.cells #[.string sk] 9)).grownBy w2 (Value.slice ao ss.length cc).ownBlock →
          w2.ownsRow w.heap.size 9 1 v' (ss ++ [sk]).length (strsV (ss ++ [sk])) ∧ Hid ((ss ++ [sk]).map (fun x => x.data.toList) = ps) ∧ Below w.heap.size w w2 := by
        intro v' w2 hown2 hgrow2
        refine ⟨?_, hat.out.fin hk1, (hbel.alloc hws _).grown hgrow2 (by simp; omega) (own_block_ge hown)⟩
        have e : strsV (ss ++ [sk]) = strsV ss ++ [.string sk] := by simp [strsV]
        rw [e, List.length_append]
        exact hown2
      have Fin := Lib.hid fin
      clear fin
      by_cases hex : 0 ≤ n ∧ ¬ (ss.length : Int) < n - 1
      · obtain ⟨x1, x2⟩ := hex
        have hb1 : decide (n < 0) = false := decide_eq_false (by omega)
        have hb2 : decide ((ss.length : Int) < n - 1) = false := decide_eq_false x2
        clear hsl hlast hno hk1
        go_wp2_with (at_builtin; refine wpList_append_own _ rfl (.tmp 35) (.tmp 37) 45 rfl w.heap.size 9 i0 (.string ⟨#[]⟩) 1 16 Tryz.underlying45 hi hz0 hz1 hz2 rfl (by decide) _ _ _ rfl (hown.alloc _) ⟨wr.heap.size, 0, none⟩ 1 1 [.string sk] rfl rfl (cell_one_new _ _ _) (one_str _) (by unfold maxLen; omega) (by omega) (by simp; omega) ?_; intro v' w2 hown2 hgrow2 _)
        go_ret
        exact ⟨_, rfl, ss ++ [sk], Fin.out _ _ hown2 hgrow2⟩
      · have hmiss : c ∉ sk.data.toList := by
          rw [hsl]
          rcases hlast with h | h
          · rw [← hk1, Nat.add_sub_cancel] at h; exact h
          · exfalso; omega
        have hix := Lib.hid (nindex_miss sk c hmiss (by omega))
        clear hmiss hsl hlast hno hk1
        by_cases hneg : n < 0
        · have hb1 : decide (n < 0) = true := decide_eq_true hneg
          go_wp2_with fail
          refine (hix.out _).mono ?_
          rintro e w1 ⟨rfl, rfl⟩
          go_wp2_with (at_builtin; refine wpList_append_own _ rfl (.tmp 35) (.tmp 37) 45 rfl w.heap.size 9 i0 (.string ⟨#[]⟩) 1 16 Tryz.underlying45 hi hz0 hz1 hz2 rfl (by decide) _ _ _ rfl (hown.alloc _) ⟨w1.heap.size, 0, none⟩ 1 1 [.string sk] rfl rfl (cell_one_new _ _ _) (one_str _) (by unfold maxLen; omega) (by omega) (by simp; omega) ?_; intro v' w2 hown2 hgrow2 _)
          go_ret
          exact ⟨_, ss ++ [sk], rfl, Fin.out _ _ hown2 hgrow2⟩
        · have hb1 : decide (n < 0) = false := decide_eq_false hneg
          have hlt : (ss.length : Int) < n - 1 := by omega
          have hb2 : decide ((ss.length : Int) < n - 1) = true := decide_eq_true hlt
          go_wp2_with fail
          refine (hix.out _).mono ?_
          rintro e w1 ⟨rfl, rfl⟩
          go_wp2_with (at_builtin; refine wpList_append_own _ rfl (.tmp 35) (.tmp 37) 45 rfl w.heap.size 9 i0 (.string ⟨#[]⟩) 1 16 Tryz.underlying45 hi hz0 hz1 hz2 rfl (by decide) _ _ _ rfl (hown.alloc _) ⟨w1.heap.size, 0, none⟩ 1 1 [.string sk] rfl rfl (cell_one_new _ _ _) (one_str _) (by unfold maxLen; omega) (by omega) (by simp; omega) ?_; intro v' w2 hown2 hgrow2 _)
          go_ret
          exact ⟨_, ss ++ [sk], rfl, Fin.out _ _ hown2 hgrow2⟩

/-- split: every piece. -/
theorem nsplit_any (s : ByteArray) (c : UInt8) (ps : List CL.Bs) (hp : ps ≠ []) (hs : s.data.toList = CL.joinC c ps) (hno : ∀ p ∈ ps, c ∉ p) (hl : s.size ≤ 1099511627776) (w : World) :
    Calls Tryz.prog 54 #[.string s, .string ⟨#[c]⟩] w fun e w' => ∃ (v : Value) (ss : List ByteArray), e = .returned v ∧ w'.ownsRow w.heap.size 9 1 v ss.length (strsV ss) ∧ Hid (ss.map (fun x => x.data.toList) = ps) ∧ Below w.heap.size w w' := by
  have hno' : ∀ k, k < ps.length → c ∉ ps.getD k [] := by
    intro k hk
    have e : ps.getD k [] = ps[k] := by simp [List.getD, List.getElem?_eq_getElem hk]
    rw [e]; exact hno _ (List.getElem_mem hk)
  have hp0 := List.length_pos_iff.2 hp
  have hc := Lib.hid (nsplitN_any s c (-1) ps hp hs (fun k hk => hno' k (by omega)) (Or.inl (hno' _ (by omega))) (Or.inl (by decide)) (by decide) hl)
  clear hs hno hno' hp0
  go_enter Tryz.func54, Tryz.ntmps54
  go_wp2_with fail
  refine (hc.out _).mono ?_
  rintro e w1 ⟨v, ss, rfl, h1, h2, h3⟩
  go_wp2_with fail
  go_ret
  exact ⟨v, ss, rfl, h1, h2, h3⟩
end Go.Proofs.YtdmggcbbfljciaaGreatDoor
