/- newContext, Context.get: a label's parts as a map. -/
import Derived.Test.YtaloidnoeafgiaaGreatDoorMap1
import Derived.Test.YtaloidnoeafgiaaGreatDoorLab2
import Derived.Carry
namespace Go.Proofs.YtaloidnoeafgiaaGreatDoor
open Go.RowKit Go.Lib

abbrev kU : ByteArray := ⟨#[117, 115, 101, 114]⟩
abbrev kR : ByteArray := ⟨#[114, 111, 108, 101]⟩
abbrev kT : ByteArray := ⟨#[116, 121, 112, 101]⟩
abbrev kL : ByteArray := ⟨#[108, 101, 118, 101, 108]⟩
abbrev tCtx : Nat := 67

/-- the pairs of a label -/
def ctxL (u r t l : ByteArray) : Pairs := [(kU, .string u), (kR, .string r), (kT, .string t)] ++ if l.size = 0 then [] else [(kL, .string l)]

/-- a map has the parts of a label -/
structure Parts (l : Pairs) (u r t lv : ByteArray) : Prop where
  u : lk l kU = some (.string u)
  r : lk l kR = some (.string r)
  t : lk l kT = some (.string t)
  l : (lk l kL).getD (.string ⟨#[]⟩) = .string lv

theorem neUR : (kU = kR) = False := by simp
theorem parts_ctxL (u r t l : ByteArray) : Parts (ctxL u r t l) u r t l := by
  unfold ctxL
  by_cases h : l.size = 0
  · have : l = ⟨#[]⟩ := bytes_ext (by rw [List.eq_nil_of_length_eq_zero (l := l.data.toList) (by rw [← Lib.size_eq]; exact h)])
    subst this
    have e : (if (⟨#[]⟩ : ByteArray).size = 0 then ([] : Pairs) else [(kL, .string ⟨#[]⟩)]) = [] := rfl
    rw [e]
    refine ⟨?_, ?_, ?_, ?_⟩ <;> simp [lk]
  · refine ⟨?_, ?_, ?_, ?_⟩ <;> simp [lk, h]

theorem strs_eq {ss ks : List ByteArray} (h : ss.map (fun x => x.data.toList) = ks.map (fun x => x.data.toList)) : ss = ks := by
  induction ss generalizing ks with
  | nil => cases ks with
    | nil => rfl
    | cons a b => simp at h
  | cons a b ih => cases ks with
    | nil => simp at h
    | cons c d =>
      simp only [List.map_cons, List.cons.injEq] at h
      rw [bytes_ext h.1, ih h.2]

theorem zero_str (w : World) : (zeroValue 9).run Tryz.prog w = .ok (.string ⟨#[]⟩) w := by kernel_rfl

theorem grown_cell {w w' : World} {b g o : Nat} (hg : w.grownBy w' (some b)) (hlt : g < w.heap.size) (hne : g ≠ b) {v : Value} (h : w.cell? ⟨g, o, none⟩ = some v) : w'.cell? ⟨g, o, none⟩ = some v :=
  (World.cell?_of_block (w := w) (hg.block g hlt (fun e => hne (Option.some.inj e)))).trans h

set_option maxRecDepth 100000 in
set_option maxHeartbeats 2000000 in
theorem newContext_three (s u r t : ByteArray) (hs : s.data.toList = CL.joinC 58 [u.data.toList, r.data.toList, t.data.toList]) (hnu : 58 ∉ u.data.toList) (hnr : 58 ∉ r.data.toList) (hnt : 58 ∉ t.data.toList) (hl : s.size ≤ 1099511627776) (w : World) :
    Calls Tryz.prog 51 #[.string s] w fun e w' => e = .returned (.tuple #[.map (some w.heap.size), .nilIface]) ∧ MapAt w' w.heap.size [(kU, .string u), (kR, .string r), (kT, .string t)] ∧ Below w.heap.size w w' := by
  have hsp := Lib.hid (splitN_any s 58 4 [u.data.toList, r.data.toList, t.data.toList] (by simp) hs (by
    intro k hk
    simp at hk
    match k, hk with
    | 0, _ => exact hnu
    | 1, _ => exact hnr) (Or.inl hnt) (Or.inr (by simp)) (by decide) hl)
  have h0 : ((s.size : Int) != 0) = true := by
    have : s.size ≠ 0 := by rw [Lib.size_eq, hs]; simp [CL.joinC]
    have h2 : (s.size : Int) ≠ 0 := by omega
    simpa using h2
  have hmk := @run_makeMap Tryz.prog
  have HM : Hid (MapAt (w.alloc (.map #[] 0)) w.heap.size []) := MapAt.made w
  clear hs hnu hnr hnt hl
  go_enter Tryz.func51, Tryz.ntmps51
  go_wp2_with fail
  refine (hsp.out _).mono ?_
  rintro e w2 ⟨v, ss, rfl, hown, hss, hb2⟩
  obtain rfl : ss = [u, r, t] := strs_eq hss.out
  obtain ⟨ao, cc, rfl⟩ := owns_shape' hown
  obtain ⟨_, g, rfl, hg, hlt, hc⟩ := own_strs hown (by simp)
  have c0 := hc 0 (by simp)
  have c1 := hc 1 (by simp)
  have c2 := hc 2 (by simp)
  have hne : g ≠ w.heap.size := by simp at hg; omega
  have hm := HM.out.below hb2 (by simp)
  have HB : Hid (Below w.heap.size w w2) := ((Below.refl w.heap.size w).alloc (Nat.le_refl _) _).trans (hb2.mono (by simp))
  clear hown hss hb2 hc hg HM
  go_wp2_with (at_mapUpdate; refine wpList_store _ rfl _ _ _ 67 rfl 9 9 Tryz.underlying67 Tryz.underlying9 w.heap.size _ rfl hm _ _ rfl rfl ?_; intro w3 hm hg; have c0 := grown_cell hg hlt hne c0; have c1 := grown_cell hg hlt hne c1; have c2 := grown_cell hg hlt hne c2; have HB : Hid (Below w.heap.size w w3) := HB.out.grown hg HB.out.size (fun k hk => by cases hk; exact Nat.le_refl _); have hlt := Nat.lt_of_lt_of_le hlt hg.size; clear hg)
  go_ret2
  exact ⟨rfl, hm, HB.out⟩
set_option maxRecDepth 100000 in
set_option maxHeartbeats 2000000 in
theorem newContext_four (s u r t l : ByteArray) (hs : s.data.toList = CL.joinC 58 [u.data.toList, r.data.toList, t.data.toList, l.data.toList]) (hnu : 58 ∉ u.data.toList) (hnr : 58 ∉ r.data.toList) (hnt : 58 ∉ t.data.toList) (hl : s.size ≤ 1099511627776) (w : World) :
    Calls Tryz.prog 51 #[.string s] w fun e w' => e = .returned (.tuple #[.map (some w.heap.size), .nilIface]) ∧ MapAt w' w.heap.size [(kU, .string u), (kR, .string r), (kT, .string t), (kL, .string l)] ∧ Below w.heap.size w w' := by
  have hsp := Lib.hid (splitN_any s 58 4 [u.data.toList, r.data.toList, t.data.toList, l.data.toList] (by simp) hs (by
    intro k hk
    simp at hk
    match k, hk with
    | 0, _ => exact hnu
    | 1, _ => exact hnr
    | 2, _ => exact hnt) (Or.inr rfl) (Or.inr (by simp)) (by decide) hl)
  have h0 : ((s.size : Int) != 0) = true := by
    have : s.size ≠ 0 := by rw [Lib.size_eq, hs]; simp [CL.joinC]
    have h2 : (s.size : Int) ≠ 0 := by omega
    simpa using h2
  have hmk := @run_makeMap Tryz.prog
  have HM : Hid (MapAt (w.alloc (.map #[] 0)) w.heap.size []) := MapAt.made w
  clear hs hnu hnr hnt hl
  go_enter Tryz.func51, Tryz.ntmps51
  go_wp2_with fail
  refine (hsp.out _).mono ?_
  rintro e w2 ⟨v, ss, rfl, hown, hss, hb2⟩
  obtain rfl : ss = [u, r, t, l] := strs_eq hss.out
  obtain ⟨ao, cc, rfl⟩ := owns_shape' hown
  obtain ⟨_, g, rfl, hg, hlt, hc⟩ := own_strs hown (by simp)
  have c0 := hc 0 (by simp)
  have c1 := hc 1 (by simp)
  have c2 := hc 2 (by simp)
  have c3 := hc 3 (by simp)
  have hne : g ≠ w.heap.size := by simp at hg; omega
  have hm := HM.out.below hb2 (by simp)
  have HB : Hid (Below w.heap.size w w2) := ((Below.refl w.heap.size w).alloc (Nat.le_refl _) _).trans (hb2.mono (by simp))
  clear hown hss hb2 hc hg HM
  go_wp2_with (at_mapUpdate; refine wpList_store _ rfl _ _ _ 67 rfl 9 9 Tryz.underlying67 Tryz.underlying9 w.heap.size _ rfl hm _ _ rfl rfl ?_; intro w3 hm hg; have c0 := grown_cell hg hlt hne c0; have c1 := grown_cell hg hlt hne c1; have c2 := grown_cell hg hlt hne c2; have c3 := grown_cell hg hlt hne c3; have HB : Hid (Below w.heap.size w w3) := HB.out.grown hg HB.out.size (fun k hk => by cases hk; exact Nat.le_refl _); have hlt := Nat.lt_of_lt_of_le hlt hg.size; clear hg)
  go_ret2
  exact ⟨rfl, hm, HB.out⟩

/-- a label's text is read into its parts -/
theorem newContext_any (s u r t l : ByteArray) (hs : s.data.toList = labT u r t l) (hnu : 58 ∉ u.data.toList) (hnr : 58 ∉ r.data.toList) (hnt : 58 ∉ t.data.toList) (hl : s.size ≤ 1099511627776) (w : World) :
    Calls Tryz.prog 51 #[.string s] w fun e w' => e = .returned (.tuple #[.map (some w.heap.size), .nilIface]) ∧ MapAt w' w.heap.size (ctxL u r t l) ∧ Below w.heap.size w w' := by
  by_cases h0 : l.size = 0
  · have e : ctxL u r t l = [(kU, .string u), (kR, .string r), (kT, .string t)] := by simp only [ctxL, h0, if_true, List.append_nil]
    rw [e]
    exact newContext_three s u r t (by rw [hs]; simp [labT, h0, CL.joinC]) hnu hnr hnt hl w
  · have e : ctxL u r t l = [(kU, .string u), (kR, .string r), (kT, .string t), (kL, .string l)] := by simp only [ctxL, h0, if_false, List.cons_append, List.nil_append]
    rw [e]
    exact newContext_four s u r t l (by rw [hs]; simp [labT, h0, CL.joinC]) hnu hnr hnt hl w

/-- the error of a text that is no label -/
abbrev errLabel : Value := .iface 95 (.string ⟨#[105, 110, 118, 97, 108, 105, 100, 32, 76, 97, 98, 101, 108]⟩)

set_option maxRecDepth 100000 in
set_option maxHeartbeats 2000000 in
theorem newContext_short (s : ByteArray) (ps : List CL.Bs) (hp : ps ≠ []) (h3 : ps.length < 3) (hs : s.data.toList = CL.joinC 58 ps) (hno : ∀ p ∈ ps, 58 ∉ p) (h0 : s.size ≠ 0) (hl : s.size ≤ 1099511627776) (w : World) :
    Calls Tryz.prog 51 #[.string s] w fun e w' => ∃ v : Value, e = .returned (.tuple #[v, errLabel]) ∧ Below w.heap.size w w' := by
  have hsp := Lib.hid (splitN_any s 58 4 ps hp hs (by
    intro k hk
    have e : ps.getD k [] = ps[k]'(by omega) := by simp [List.getD, List.getElem?_eq_getElem (show k < ps.length by omega)]
    rw [e]; exact hno _ (List.getElem_mem _)) (Or.inl (by
    have hpl := List.length_pos_iff.2 hp
    have e : ps.getD (ps.length - 1) [] = ps[ps.length - 1]'(by omega) := by simp [List.getD, List.getElem?_eq_getElem (show ps.length - 1 < ps.length by omega)]
    rw [e]; exact hno _ (List.getElem_mem _))) (Or.inr (by omega)) (by decide) hl)
  have h0 : ((s.size : Int) != 0) = true := by
    have h2 : (s.size : Int) ≠ 0 := by omega
    simpa using h2
  have hmk := @run_makeMap Tryz.prog
  clear hs hno
  go_enter Tryz.func51, Tryz.ntmps51
  go_wp2_with fail
  refine (hsp.out _).mono ?_
  rintro e w2 ⟨v, ss, rfl, hown, hss, hb2⟩
  have h4 : ss.length < 3 := by have := congrArg List.length hss.out; simp at this; omega
  obtain ⟨ao, cc, rfl⟩ := owns_shape' hown
  have HB : Hid (Below w.heap.size w w2) := ((Below.refl w.heap.size w).alloc (Nat.le_refl _) _).trans (hb2.mono (by simp))
  have hlt : decide ((ss.length : Int) < 3) = true := decide_eq_true (by omega)
  clear hown hss hb2
  go_wp2_with fail
  go_ret2
  exact ⟨_, rfl, HB.out⟩

set_option maxRecDepth 100000 in
set_option maxHeartbeats 2000000 in
theorem get_any (b : Nat) (p : Pairs) (u r t l : ByteArray) (hp : Parts p u r t l) (hz : Sized u r t l) (w : World) (h : MapAt w b p) :
    Calls Tryz.prog 55 #[.map (some b)] w fun e w' => ∃ s : ByteArray, e = .returned (.string s) ∧ Hid (s.data.toList = labT u r t l) ∧ w' = w := by
  obtain ⟨h1, h2, h3, h4⟩ := hz
  have e1 := h.look Tryz.underlying67 Tryz.underlying9 (zero_str w) kU false
  have e2 := h.look Tryz.underlying67 Tryz.underlying9 (zero_str w) kR false
  have e3 := h.look Tryz.underlying67 Tryz.underlying9 (zero_str w) kT false
  have e4 := h.look Tryz.underlying67 Tryz.underlying9 (zero_str w) kL false
  simp only [Bool.false_eq_true, if_false] at e1 e2 e3 e4
  rw [hp.u] at e1
  rw [hp.r] at e2
  rw [hp.t] at e3
  rw [hp.l] at e4
  simp only [Option.getD_some] at e1 e2 e3
  clear h hp
  by_cases h0 : l.size = 0
  · have hb := (str_nil l (List.eq_nil_of_length_eq_zero (by rw [← Lib.size_eq]; exact h0))).1
    go_enter Tryz.func55, Tryz.ntmps55
    go_wp2_with fail
    go_ret
    refine ⟨_, rfl, ?_, rfl⟩
    show _ = _
    simp [labT, h0, app_bytes]
  · have hb := (str_some l (fun e => h0 (by rw [Lib.size_eq, e]; rfl))).1
    go_enter Tryz.func55, Tryz.ntmps55
    go_wp2_with fail
    go_ret
    refine ⟨_, rfl, ?_, rfl⟩
    show _ = _
    simp [labT, h0, app_bytes]
end Go.Proofs.YtaloidnoeafgiaaGreatDoor
