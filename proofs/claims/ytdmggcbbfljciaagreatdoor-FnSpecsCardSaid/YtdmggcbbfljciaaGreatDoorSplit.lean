/- splitN of package selabels, at a separator of one byte: the pieces. -/
import Derived.Test.YtdmggcbbfljciaaGreatDoorCut
import Derived.OwnWalk
import Derived.Laws.AppendOwn
import Derived.Deep.LoopGhost
namespace Go.Proofs.YtdmggcbbfljciaaGreatDoor
open Go.RowKit

theorem info9 : (Tryz.prog.info? 9).map (fun i => (i.zero, i.size, i.bytes)) = some (some (.string ⟨#[]⟩), 1, 16) := by kernel_rfl

theorem owns_shape' {w : World} {B e : Nat} {v : Value} {n : Nat} {xs : List Value} (h : w.ownsRow B e 1 v n xs) : ∃ ao cap, v = .slice ao n cap := by
  rcases h.2 with ⟨rfl, rfl⟩ | ⟨g, cap, cur, rfl, _⟩
  · exact ⟨none, 0, rfl⟩
  · exact ⟨some ⟨g, 0, none⟩, cap, rfl⟩

theorem one_str (x : ByteArray) : ∀ u ∈ [Value.string x], u.oneCell' = true := by
  intro u hu
  simp at hu; subst hu; rfl

theorem own_block_ge {w : World} {B e n c : Nat} {ao : Option Addr} {xs : List Value} (h : w.ownsRow B e 1 (.slice ao n c) n xs) : ∀ k, (Value.slice ao n c).ownBlock = some k → B ≤ k := by
  intro k hk
  rcases h.2 with ⟨he, _⟩ | ⟨g, cap, cur, he, hg, _⟩
  · simp only [Value.slice.injEq] at he; obtain ⟨rfl, _⟩ := he; simp [Value.ownBlock] at hk
  · simp only [Value.slice.injEq] at he; obtain ⟨rfl, _⟩ := he
    simp [Value.ownBlock] at hk; omega

def strsV (ss : List ByteArray) : List Value := ss.map Value.string
theorem strsV_length (ss : List ByteArray) : (strsV ss).length = ss.length := by simp [strsV]

theorem joinC_len (c : UInt8) (ps : List CL.Bs) : ps.length ≤ (CL.joinC c ps).length + 1 := by
  induction ps with
  | nil => simp
  | cons a r ih =>
    by_cases h : r = []
    · subst h; simp
    · rw [CL.joinC_cons c a r h]; simp; omega

/-- where the text stands behind k pieces -/
structure SplAt (c : UInt8) (ps : List CL.Bs) (k : Nat) (s : ByteArray) (ss : List ByteArray) : Prop where
  lt : k < ps.length
  rest : s.data.toList = CL.joinC c (ps.drop k)
  done : ss.map (fun x => x.data.toList) = ps.take k

theorem SplAt.len {c : UInt8} {ps : List CL.Bs} {k : Nat} {s : ByteArray} {ss : List ByteArray} (h : SplAt c ps k s ss) : ss.length = k := by
  have := congrArg List.length h.done
  simp at this; have := h.lt; omega

theorem SplAt.cons {c : UInt8} {ps : List CL.Bs} {k : Nat} {s : ByteArray} {ss : List ByteArray} (h : SplAt c ps k s ss) (hk : k + 1 < ps.length) : s.data.toList = ps.getD k [] ++ c :: CL.joinC c (ps.drop (k + 1)) := by
  rw [h.rest, List.drop_eq_getElem_cons h.lt, CL.joinC_cons _ _ _ (by intro e; have := congrArg List.length e; simp at this; omega)]
  simp [List.getD, List.getElem?_eq_getElem h.lt]

theorem SplAt.last {c : UInt8} {ps : List CL.Bs} {k : Nat} {s : ByteArray} {ss : List ByteArray} (h : SplAt c ps k s ss) (hk : k + 1 = ps.length) : s.data.toList = ps.getD k [] := by
  rw [h.rest, List.drop_eq_getElem_cons h.lt, List.drop_eq_nil_of_le (by omega)]
  simp [CL.joinC, List.getD, List.getElem?_eq_getElem h.lt]

theorem SplAt.step {c : UInt8} {ps : List CL.Bs} {k : Nat} {s : ByteArray} {ss : List ByteArray} (h : SplAt c ps k s ss) (hk : k + 1 < ps.length) (n : Nat) (hn : n = (ps.getD k []).length) :
    SplAt c ps (k + 1) (s.extract (n + 1) s.size) (ss ++ [s.extract 0 n]) := by
  have hs := h.cons hk
  subst hn
  refine ⟨hk, ?_, ?_⟩
  · rw [Lib.extract_to_end, hs]
    have e : ps.getD k [] ++ c :: CL.joinC c (ps.drop (k + 1)) = (ps.getD k [] ++ [c]) ++ CL.joinC c (ps.drop (k + 1)) := by simp
    rw [e, List.drop_left' (by simp)]
  · rw [List.map_append, h.done, List.take_succ_eq_append_getElem h.lt]
    congr 1
    have e : ps.getD k [] = ps[k]'h.lt := by simp [List.getD, List.getElem?_eq_getElem h.lt]
    simp only [List.map_cons, List.map_nil]
    rw [Lib.extract_data, hs, e]
    simp

theorem SplAt.fin {c : UInt8} {ps : List CL.Bs} {k : Nat} {s : ByteArray} {ss : List ByteArray} (h : SplAt c ps k s ss) (hk : k + 1 = ps.length) : (ss ++ [s]).map (fun x => x.data.toList) = ps := by
  have hs := h.last hk
  rw [List.map_append, h.done]
  have e : ps.getD k [] = ps[k]'h.lt := by simp [List.getD, List.getElem?_eq_getElem h.lt]
  simp only [List.map_cons, List.map_nil]
  rw [hs, e, ← List.take_succ_eq_append_getElem h.lt, hk, List.take_length]

set_option maxRecDepth 100000 in
set_option maxHeartbeats 2000000 in
theorem splitN_any (s : ByteArray) (c : UInt8) (n : Int) (ps : List CL.Bs) (hp : ps ≠ []) (hs : s.data.toList = CL.joinC c ps) (hno : ∀ k, k + 1 < ps.length → c ∉ ps.getD k []) (hlast : c ∉ ps.getD (ps.length - 1) [] ∨ n = ps.length) (hn : n < 0 ∨ (ps.length : Int) ≤ n) (hn2 : n ≤ 1000000) (hl : s.size ≤ 1099511627776) (w : World) :
    Calls Tryz.prog 152 #[.string s, .string ⟨#[c]⟩, .int .i64 n] w fun e w' => ∃ (v : Value) (ss : List ByteArray), e = .returned v ∧ w'.ownsRow w.heap.size 9 1 v ss.length (strsV ss) ∧ Hid (ss.map (fun x => x.data.toList) = ps) ∧ Below w.heap.size w w' := by
  obtain ⟨i0, hi, hz0, hz1, hz2⟩ := info_parts info9
  have hpl : ps.length ≤ s.size + 1 := by rw [Lib.size_eq, hs]; exact joinC_len c ps
  have hp0 := List.length_pos_iff.2 hp
  have HS : Hid (SplAt c ps 0 s []) := ⟨hp0, by simpa using hs, by simp⟩
  have hn3 : -1000000000 < n ∨ n ≤ -1000000000 := by omega
  clear hs hp
  go_enter Tryz.func152, Tryz.ntmps152
  go_wp2
  go_loopg [0, 7] (ps.length) (fun m sv ov wr => ∃ (k : Nat) (sk : ByteArray) (ss : List ByteArray), sv = .string sk ∧ m + k = ps.length ∧ ss.length = k ∧ Hid (SplAt c ps k sk ss) ∧ sk.size ≤ s.size ∧ wr.ownsRow w.heap.size 9 1 ov ss.length (strsV ss) ∧ Below w.heap.size w wr)
  case atStart => exact ⟨0, s, [], rfl, rfl, rfl, HS, Nat.le_refl _, World.ownsRow_nil _ _ _ _, Below.refl _ _⟩
  case round =>
    obtain ⟨k, sk, ss, rfl, hgk, hssk, hat, hsk, hown, hbel⟩ := hrel
    have Hgk : Hid (gk + k = ps.length) := hgk
    have Hssk : Hid (ss.length = k) := hssk
    have hkl := hat.out.lt
    have hss1 : ss.length ≤ k := by omega
    have hss2 : k ≤ ss.length := by omega
    have hws := hbel.size
    clear hgk hssk
    obtain ⟨ao, cc, rfl⟩ := owns_shape' hown
    by_cases hk : k + 1 < ps.length
    · have hc := hat.out.cons hk
      have ha := hno k hk
      obtain ⟨a, hA⟩ : ∃ a, a = ps.getD k [] := ⟨_, rfl⟩
      rw [← hA] at hc ha
      have HA : Hid (a = ps.getD k []) := hA
      have hal : a.length + 1 ≤ sk.size := by rw [Lib.size_eq, hc]; simp
      have hix := Lib.hid (index_hit sk c a _ hc ha (by omega))
      clear hc ha hA
      have e2 : ((a.length : Int) + 1).toNat = a.length + 1 := by omega
      have hcond : n < 0 ∨ (ss.length : Int) < n - 1 := by omega
      have fin : ∀ (v' : Value) (w2 : World), w2.ownsRow w.heap.size 9 1 v' (ss.length + 1) (strsV ss ++ [.string (sk.extract 0 a.length)]) → (wr.alloc (.cells #[.string (sk.extract 0 a.length)] 9)).grownBy w2 (Value.slice ao ss.length cc).ownBlock →
          ∃ (k' : Nat) (sk' : ByteArray) (ss' : List ByteArray), Value.string (sk.extract (a.length + 1) sk.size) = .string sk' ∧ (gk - 1) + k' = ps.length ∧ ss'.length = k' ∧ Hid (SplAt c ps k' sk' ss') ∧ sk'.size ≤ s.size ∧ w2.ownsRow w.heap.size 9 1 v' ss'.length (strsV ss') ∧ Below w.heap.size w w2 := by
        intro v' w2 hown2 hgrow2
        have h1 := Hgk.out
        have h2 := Hssk.out
        refine ⟨k + 1, _, ss ++ [sk.extract 0 a.length], rfl, by omega, by simp; omega, hat.out.step hk a.length (by rw [HA.out]), ?_, ?_, ?_⟩
        · rw [Lib.size_eq, Lib.extract_to_end, List.length_drop]
          rw [Lib.size_eq sk] at hsk
          omega
        · have e : strsV (ss ++ [sk.extract 0 a.length]) = strsV ss ++ [.string (sk.extract 0 a.length)] := by simp [strsV]
          rw [e, List.length_append]
          exact hown2
        · exact (hbel.alloc hws _).grown hgrow2 (by simp; omega) (own_block_ge hown)
      have Fin := Lib.hid fin
      clear fin
      by_cases hneg : n < 0
      · have hb1 : decide (n < 0) = true := decide_eq_true hneg
        go_wp2_with fail
        refine (hix.out _).mono ?_
        rintro e w1 ⟨rfl, rfl⟩
        go_wp2_with (at_builtin; refine wpList_append_own _ rfl (.tmp 23) (.tmp 27) 45 rfl w.heap.size 9 i0 (.string ⟨#[]⟩) 1 16 Tryz.underlying45 hi hz0 hz1 hz2 rfl (by decide) _ _ _ rfl (hown.alloc _) ⟨w1.heap.size, 0, none⟩ 1 1 [.string (sk.extract 0 a.length)] rfl rfl (cell_one_new _ _ _) (one_str _) (by unfold maxLen; omega) (by omega) (by simp; omega) ?_; intro v' w2 hown2 hgrow2 _)
        go_roundg (gk - 1)
        case measure => have := Hgk.out; omega
        case rel => exact Fin.out _ _ hown2 hgrow2
      · have hb1 : decide (n < 0) = false := decide_eq_false hneg
        have hb2 : decide ((ss.length : Int) < n - 1) = true := by simp; omega
        go_wp2_with fail
        refine (hix.out _).mono ?_
        rintro e w1 ⟨rfl, rfl⟩
        go_wp2_with (at_builtin; refine wpList_append_own _ rfl (.tmp 23) (.tmp 27) 45 rfl w.heap.size 9 i0 (.string ⟨#[]⟩) 1 16 Tryz.underlying45 hi hz0 hz1 hz2 rfl (by decide) _ _ _ rfl (hown.alloc _) ⟨w1.heap.size, 0, none⟩ 1 1 [.string (sk.extract 0 a.length)] rfl rfl (cell_one_new _ _ _) (one_str _) (by unfold maxLen; omega) (by omega) (by simp; omega) ?_; intro v' w2 hown2 hgrow2 _)
        go_roundg (gk - 1)
        case measure => have := Hgk.out; omega
        case rel => exact Fin.out _ _ hown2 hgrow2
    · have hk1 : k + 1 = ps.length := by omega
      have hsl := hat.out.last hk1
      have fin : ∀ (v' : Value) (w2 : World), w2.ownsRow w.heap.size 9 1 v' (ss.length + 1) (strsV ss ++ [.string sk]) → (wr.alloc (.cells #[.string sk] 9)).grownBy w2 (Value.slice ao ss.length cc).ownBlock →
          w2.ownsRow w.heap.size 9 1 v' (ss ++ [sk]).length (strsV (ss ++ [sk])) ∧ Hid ((ss ++ [sk]).map (fun x => x.data.toList) = ps) ∧ Below w.heap.size w w2 := by
        intro v' w2 hown2 hgrow2
        refine ⟨?_, hat.out.fin hk1, (hbel.alloc hws _).grown hgrow2 (by simp; omega) (own_block_ge hown)⟩
        have e : strsV (ss ++ [sk]) = strsV ss ++ [.string sk] := by simp [strsV]
        rw [e, List.length_append]
        exact hown2
      have Fin := Lib.hid fin
      clear fin
      by_cases hex : 0 ≤ n ∧ ¬ (ss.length : Int) < n - 1
      · obtain ⟨x1, x2⟩ := hex
        have hb1 : decide (n < 0) = false := decide_eq_false (by omega)
        have hb2 : decide ((ss.length : Int) < n - 1) = false := decide_eq_false x2
        clear hsl hlast hno hk1
        go_wp2_with (at_builtin; refine wpList_append_own _ rfl (.tmp 35) (.tmp 37) 45 rfl w.heap.size 9 i0 (.string ⟨#[]⟩) 1 16 Tryz.underlying45 hi hz0 hz1 hz2 rfl (by decide) _ _ _ rfl (hown.alloc _) ⟨wr.heap.size, 0, none⟩ 1 1 [.string sk] rfl rfl (cell_one_new _ _ _) (one_str _) (by unfold maxLen; omega) (by omega) (by simp; omega) ?_; intro v' w2 hown2 hgrow2 _)
        go_ret
        exact ⟨_, rfl, ss ++ [sk], Fin.out _ _ hown2 hgrow2⟩
      · have hmiss : c ∉ sk.data.toList := by
          rw [hsl]
          rcases hlast with h | h
          · rw [← hk1, Nat.add_sub_cancel] at h; exact h
          · exfalso; omega
        have hix := Lib.hid (index_miss sk c hmiss (by omega))
        clear hmiss hsl hlast hno hk1
        by_cases hneg : n < 0
        · have hb1 : decide (n < 0) = true := decide_eq_true hneg
          go_wp2_with fail
          refine (hix.out _).mono ?_
          rintro e w1 ⟨rfl, rfl⟩
          go_wp2_with (at_builtin; refine wpList_append_own _ rfl (.tmp 35) (.tmp 37) 45 rfl w.heap.size 9 i0 (.string ⟨#[]⟩) 1 16 Tryz.underlying45 hi hz0 hz1 hz2 rfl (by decide) _ _ _ rfl (hown.alloc _) ⟨w1.heap.size, 0, none⟩ 1 1 [.string sk] rfl rfl (cell_one_new _ _ _) (one_str _) (by unfold maxLen; omega) (by omega) (by simp; omega) ?_; intro v' w2 hown2 hgrow2 _)
          go_ret
          exact ⟨_, ss ++ [sk], rfl, Fin.out _ _ hown2 hgrow2⟩
        · have hb1 : decide (n < 0) = false := decide_eq_false hneg
          have hlt : (ss.length : Int) < n - 1 := by omega
          have hb2 : decide ((ss.length : Int) < n - 1) = true := decide_eq_true hlt
          go_wp2_with fail
          refine (hix.out _).mono ?_
          rintro e w1 ⟨rfl, rfl⟩
          go_wp2_with (at_builtin; refine wpList_append_own _ rfl (.tmp 35) (.tmp 37) 45 rfl w.heap.size 9 i0 (.string ⟨#[]⟩) 1 16 Tryz.underlying45 hi hz0 hz1 hz2 rfl (by decide) _ _ _ rfl (hown.alloc _) ⟨w1.heap.size, 0, none⟩ 1 1 [.string sk] rfl rfl (cell_one_new _ _ _) (one_str _) (by unfold maxLen; omega) (by omega) (by simp; omega) ?_; intro v' w2 hown2 hgrow2 _)
          go_ret
          exact ⟨_, ss ++ [sk], rfl, Fin.out _ _ hown2 hgrow2⟩

/-- split: every piece. -/
theorem split_any (s : ByteArray) (c : UInt8) (ps : List CL.Bs) (hp : ps ≠ []) (hs : s.data.toList = CL.joinC c ps) (hno : ∀ p ∈ ps, c ∉ p) (hl : s.size ≤ 1099511627776) (w : World) :
    Calls Tryz.prog 129 #[.string s, .string ⟨#[c]⟩] w fun e w' => ∃ (v : Value) (ss : List ByteArray), e = .returned v ∧ w'.ownsRow w.heap.size 9 1 v ss.length (strsV ss) ∧ Hid (ss.map (fun x => x.data.toList) = ps) ∧ Below w.heap.size w w' := by
  have hno' : ∀ k, k < ps.length → c ∉ ps.getD k [] := by
    intro k hk
    have e : ps.getD k [] = ps[k] := by simp [List.getD, List.getElem?_eq_getElem hk]
    rw [e]; exact hno _ (List.getElem_mem hk)
  have hp0 := List.length_pos_iff.2 hp
  have hc := Lib.hid (splitN_any s c (-1) ps hp hs (fun k hk => hno' k (by omega)) (Or.inl (hno' _ (by omega))) (Or.inl (by decide)) (by decide) hl)
  clear hs hno hno' hp0
  go_enter Tryz.func129, Tryz.ntmps129
  go_wp2_with fail
  refine (hc.out _).mono ?_
  rintro e w1 ⟨v, ss, rfl, h1, h2, h3⟩
  go_wp2_with fail
  go_ret
  exact ⟨v, ss, rfl, h1, h2, h3⟩
end Go.Proofs.YtdmggcbbfljciaaGreatDoor
