/- InitLabels: options change the parts of the two labels. -/
import Derived.Test.YtaloidnoeafgiaaDoorInit1
namespace Go.Proofs.YtaloidnoeafgiaaDoor
open Go.RowKit Go.Lib

/-- a label's parts -/
structure Lab where
  u : ByteArray
  r : ByteArray
  t : ByteArray
  l : ByteArray

def Lab.text (x : Lab) : List UInt8 := labT x.u x.r x.t x.l
/-- a label whose parts are short and, but for the level, without colons -/
structure Lab.Ok (x : Lab) : Prop where
  u : (58 : UInt8) ∉ x.u.data.toList
  r : (58 : UInt8) ∉ x.r.data.toList
  t : (58 : UInt8) ∉ x.t.data.toList
  su : x.u.size ≤ 1000
  sr : x.r.size ≤ 1000
  st : x.t.size ≤ 1000
  sl : x.l.size ≤ 1000
/-- sizes alone -/
structure Lab.Small (x : Lab) : Prop where
  su : x.u.size ≤ 1000
  sr : x.r.size ≤ 1000
  st : x.t.size ≤ 1000
  sl : x.l.size ≤ 1000
theorem Lab.Ok.small {x : Lab} (h : x.Ok) : x.Small := ⟨h.su, h.sr, h.st, h.sl⟩
theorem Lab.Small.sized {x : Lab} (h : x.Small) : Sized x.u x.r x.t x.l := by
  obtain ⟨h1, h2, h3, h4⟩ := h
  exact ⟨by omega, by omega, by omega, by omega⟩
/-- the pairs have a label's parts -/
def PartsL (l : Pairs) (x : Lab) : Prop := Parts l x.u x.r x.t x.l

theorem labT_size {x : Lab} (h : x.Small) {s : ByteArray} (hs : s.data.toList = x.text) : 2 ≤ s.size ∧ s.size ≤ 5000 := by
  obtain ⟨h1, h2, h3, h4⟩ := h
  rw [Lib.size_eq, hs]
  simp only [Lab.text, labT, List.length_append, List.length_cons]
  split
  · simp; omega
  · simp; omega

/-- what an option does to a process's label, and to its files' -/
def stepP (p : Lab) (k w : ByteArray) : Lab := if k = kR then { p with r := w } else if k = kT then { p with t := w } else if k = kU then { p with u := w } else if k = kL then { p with l := w } else p
def stepM (m : Lab) (k w : ByteArray) : Lab := if k = kF then { m with t := w } else if k = kU then { m with u := w } else if k = kL then { m with l := w } else m

/-- an option's text -/
def optT (o : ByteArray × ByteArray) : List UInt8 := if o.1 = kD then o.1.data.toList else o.1.data.toList ++ 58 :: o.2.data.toList
/-- an option that is one -/
def OptOk (o : ByteArray × ByteArray) : Prop := o.1 = kD ∨ (Kind o.1 ∧ o.2.size ≤ 1000)

/-- the labels behind options; none: disabled -/
def initRun : List (ByteArray × ByteArray) → Lab → Lab → Option (Lab × Lab)
  | [], p, m => some (p, m)
  | o :: r, p, m => if o.1 = kD then none else initRun r (stepP p o.1 o.2) (stepM m o.1 o.2)

/-- what comes out -/
def InitOut (os : List (ByteArray × ByteArray)) (p m : Lab) (pr a b : ByteArray) : Prop :=
  (∃ p' m', initRun os p m = some (p', m') ∧ a.data.toList = p'.text ∧ b.data.toList = m'.text) ∨ (initRun os p m = none ∧ a.data.toList = [] ∧ b = pr)

theorem ne_toList {a b : ByteArray} (h : a.data.toList ≠ b.data.toList) : (a.toList == b.toList) = false := by
  rw [ByteArray.toList_eq, ByteArray.toList_eq]
  simpa using h

theorem colon_ne {a b : ByteArray} (h : (58 : UInt8) ∈ a.data.toList) (hb : (58 : UInt8) ∉ b.data.toList) : (a.toList == b.toList) = false :=
  ne_toList fun e => hb (e ▸ h)

theorem not_disable {s : ByteArray} (h : (58 : UInt8) ∈ s.data.toList) : (s.toList == [100, 105, 115, 97, 98, 108, 101]) = false := by
  rw [ByteArray.toList_eq]
  have h1 : s.data.toList ≠ [100, 105, 115, 97, 98, 108, 101] := fun e => by rw [e] at h; exact absurd h (by decide)
  simpa using h1

theorem kind_colon {k : ByteArray} (h : Kind k) : (58 : UInt8) ∉ k.data.toList ∧ k ≠ kD ∧ k.size ≤ 8 := by
  rcases h with rfl | rfl | rfl | rfl | rfl <;> refine ⟨by decide, by simp, by decide⟩

theorem run_drop (os : List (ByteArray × ByteArray)) (i : Nat) (hi : i < os.length) (p m : Lab) :
    initRun (os.drop i) p m = if (os.getD i (kD, kD)).1 = kD then none else initRun (os.drop (i + 1)) (stepP p (os.getD i (kD, kD)).1 (os.getD i (kD, kD)).2) (stepM m (os.getD i (kD, kD)).1 (os.getD i (kD, kD)).2) := by
  rw [List.drop_eq_getElem_cons hi]
  have e : os.getD i (kD, kD) = os[i] := by simp [List.getD, List.getElem?_eq_getElem hi]
  rw [e]
  rfl

theorem Parts.putU {l : Pairs} {u r t lv : ByteArray} (h : Parts l u r t lv) (x : ByteArray) : Parts (putP l kU (.string x)) x r t lv := by
  refine ⟨?_, ?_, ?_, ?_⟩ <;> rw [lk_put] <;> simp [h.r, h.t, h.l]
theorem Parts.putR {l : Pairs} {u r t lv : ByteArray} (h : Parts l u r t lv) (x : ByteArray) : Parts (putP l kR (.string x)) u x t lv := by
  refine ⟨?_, ?_, ?_, ?_⟩ <;> rw [lk_put] <;> simp [h.u, h.t, h.l]
theorem Parts.putT {l : Pairs} {u r t lv : ByteArray} (h : Parts l u r t lv) (x : ByteArray) : Parts (putP l kT (.string x)) u r x lv := by
  refine ⟨?_, ?_, ?_, ?_⟩ <;> rw [lk_put] <;> simp [h.u, h.r, h.l]
theorem Parts.putL {l : Pairs} {u r t lv : ByteArray} (h : Parts l u r t lv) (x : ByteArray) : Parts (putP l kL (.string x)) u r t x := by
  refine ⟨?_, ?_, ?_, ?_⟩ <;> rw [lk_put] <;> simp [h.u, h.r, h.t]

theorem stepP_L (p : Lab) (w : ByteArray) : stepP p kL w = { p with l := w } := by simp [stepP]
theorem stepP_R (p : Lab) (w : ByteArray) : stepP p kR w = { p with r := w } := by simp [stepP]
theorem stepP_T (p : Lab) (w : ByteArray) : stepP p kT w = { p with t := w } := by simp [stepP]
theorem stepP_F (p : Lab) (w : ByteArray) : stepP p kF w = p := by simp [stepP]
theorem stepP_U (p : Lab) (w : ByteArray) : stepP p kU w = { p with u := w } := by simp [stepP]
theorem stepM_L (p : Lab) (w : ByteArray) : stepM p kL w = { p with l := w } := by simp [stepM]
theorem stepM_R (p : Lab) (w : ByteArray) : stepM p kR w = p := by simp [stepM]
theorem stepM_T (p : Lab) (w : ByteArray) : stepM p kT w = p := by simp [stepM]
theorem stepM_F (p : Lab) (w : ByteArray) : stepM p kF w = { p with t := w } := by simp [stepM]
theorem stepM_U (p : Lab) (w : ByteArray) : stepM p kU w = { p with u := w } := by simp [stepM]

theorem small_P {p : Lab} (h : p.Small) (k w : ByteArray) (hw : w.size ≤ 1000) : (stepP p k w).Small := by
  obtain ⟨h1, h2, h3, h4⟩ := h
  unfold stepP
  repeat' split
  all_goals exact ⟨by assumption, by assumption, by assumption, by assumption⟩
theorem small_M {p : Lab} (h : p.Small) (k w : ByteArray) (hw : w.size ≤ 1000) : (stepM p k w).Small := by
  obtain ⟨h1, h2, h3, h4⟩ := h
  unfold stepM
  repeat' split
  all_goals exact ⟨by assumption, by assumption, by assumption, by assumption⟩

theorem parts_ctx (x : Lab) : PartsL (ctxL x.u x.r x.t x.l) x := parts_ctxL _ _ _ _

set_option maxRecDepth 100000 in
set_option maxHeartbeats 8000000 in
theorem initLabels_ok (g c : Nat) (ss : List ByteArray) (os : List (ByteArray × ByteArray)) (hss : ss.map (fun x => x.data.toList) = os.map optT) (hok : ∀ o ∈ os, OptOk o) (h0 : ss.length ≠ 0) (hn : ss.length ≤ 1000) (ps ms pr : ByteArray) (p m : Lab) (hps : ps.data.toList = p.text) (hms : ms.data.toList = m.text) (hp : p.Ok) (hm : m.Ok) (w : World)
    (hc : ∀ j, j < ss.length → w.cell? ⟨g, j, none⟩ = some (.string (ss.getD j ⟨#[]⟩))) :
    Calls Tryd.prog 52 #[.slice (some ⟨g, 0, none⟩) ss.length c, .string ps, .string ms, .string pr] w fun e w' => ∃ a b : ByteArray, e = .returned (.tuple #[.string a, .string b, .nilIface]) ∧ Hid (InitOut os p m pr a b) ∧ Below w.heap.size w w' := by
  obtain ⟨n, hnn⟩ : ∃ n, n = ss.length := ⟨_, rfl⟩
  have HN : Hid (n = ss.length) := hnn
  have hlen : os.length = ss.length := by have := congrArg List.length hss; simpa using this.symm
  have HL : Hid (n = os.length) := by show _ = _; omega
  have HSS := Lib.hid hss
  have HOK := Lib.hid hok
  have HC : Hid (∀ j, j < n → w.cell? ⟨g, j, none⟩ = some (.string (ss.getD j ⟨#[]⟩))) := by rw [hnn]; exact hc
  have HT : Hid (∀ j, j < n → (ss.getD j ⟨#[]⟩).data.toList = optT (os.getD j (kD, kD))) := by
    intro j hj
    have h1 := congrArg (fun z => z[j]?) hss
    simp only [List.getElem?_map] at h1
    have h2 : j < ss.length := by omega
    have h3 : j < os.length := by omega
    rw [List.getElem?_eq_getElem h2, List.getElem?_eq_getElem h3] at h1
    simp only [Option.map_some, Option.some.injEq] at h1
    simpa [List.getD, List.getElem?_eq_getElem h2, List.getElem?_eq_getElem h3] using h1
  have HO : Hid (∀ j, j < n → OptOk (os.getD j (kD, kD))) := by
    intro j hj
    have h3 : j < os.length := by omega
    have e : os.getD j (kD, kD) = os[j] := by simp [List.getD, List.getElem?_eq_getElem h3]
    rw [e]; exact hok _ (List.getElem_mem h3)
  have hps2 := labT_size hp.small hps
  have hms2 := labT_size hm.small hms
  have Hnp := Lib.hid (newContext_any ps p.u p.r p.t p.l hps hp.u hp.r hp.t (by omega))
  have Hnm := Lib.hid (newContext_any ms m.u m.r m.t m.l hms hm.u hm.r hm.t (by omega))
  have Hps := Lib.hid hps
  have HP := Lib.hid hp.small
  have HM := Lib.hid hm.small
  have hpe := (str_some ps (fun e => by rw [Lib.size_eq, e] at hps2; simp at hps2)).1
  have hn0 : 0 < n := by omega
  have hn1 : n ≤ 1000 := by omega
  have hn2 : decide ((n : Int) > 0) = true := decide_eq_true (by omega)
  have hn3 : ((n : Int) == 0) = false := by simp; omega
  have c00 := HC.out 0 hn0
  obtain ⟨s0, hs0⟩ : ∃ s0, s0 = ss.getD 0 ⟨#[]⟩ := ⟨_, rfl⟩
  rw [← hs0] at c00
  have ht0 : s0.data.toList = optT (os.getD 0 (kD, kD)) := by rw [hs0]; exact HT.out 0 hn0
  have hrun0 := run_drop os 0 (by omega) p m
  rw [List.drop_zero] at hrun0
  rw [← hnn]
  clear hss hok hc hps hms hp hm hnn hn h0 hlen hs0
  by_cases hd : (os.getD 0 (kD, kD)).1 = kD
  · have h1 : s0 = kD := bytes_ext (by rw [ht0, optT, if_pos hd, hd])
    subst h1
    have Hout : Hid (InitOut os p m pr ⟨#[]⟩ pr) := Or.inr ⟨by rw [hrun0, if_pos hd], rfl, rfl⟩
    clear ht0 hrun0 hd
    go_enter Tryd.func52, Tryd.ntmps52
    go_wp2_with fail
    go_ret3
    exact ⟨_, _, rfl, Hout.out, Below.refl _ _⟩
  · have he0 := not_disable (s := s0) (by rw [ht0, optT, if_neg hd]; simp)
    clear ht0 hrun0
    go_enter Tryd.func52, Tryd.ntmps52
    go_wp2_with (go_at_call 66; go_in)
    refine (Hnp.out _).mono ?_
    rintro e w2 ⟨rfl, hmP, hb2⟩
    have HB := Lib.hid hb2
    clear hb2
    go_wp2_with (go_at_call 66; go_in)
    refine (Hnm.out _).mono ?_
    rintro e w3 ⟨rfl, hmM, hb3⟩
    have hmP := hmP.below hb3 hmP.lt
    have hne : w2.heap.size ≠ w.heap.size := by have := HB.out.size; have := hmP.lt; have h9 := (MapAt.lt (w := w2) (b := w.heap.size) (by assumption)); omega
    have Hbm : Hid (w.heap.size ≤ w2.heap.size) := HB.out.size
    have HB := Lib.hid (HB.out.trans (hb3.mono HB.out.size))
    clear hb3
    go_wp2_with fail
    have HmP := Lib.hid hmP
    have HmM := Lib.hid hmM
    obtain ⟨bm, hbm⟩ : ∃ bm, bm = w2.heap.size := ⟨_, rfl⟩
    rw [← hbm] at HmM hne Hbm ⊢
    clear hmP hmM hbm c00 hpe he0 hd
    go_loopg [57] n (fun mc iv wr => ∃ (i : Nat) (lp lm : Pairs) (pi mi : Lab), iv = .int .i64 i ∧ Hid (mc + i = n) ∧ i ≤ n ∧ Hid (initRun os p m = initRun (os.drop i) pi mi) ∧ Hid (pi.Small ∧ mi.Small) ∧ Hid (MapAt wr w.heap.size lp) ∧ Hid (PartsL lp pi) ∧ Hid (MapAt wr bm lm) ∧ Hid (PartsL lm mi) ∧ Hid (Below w.heap.size w wr))
    case atStart => exact ⟨0, _, _, p, m, rfl, rfl, Nat.zero_le _, rfl, ⟨HP.out, HM.out⟩, HmP, parts_ctx p, HmM, parts_ctx m, HB⟩
    case round =>
      obtain ⟨i, lp, lm, pi, mi, rfl, hmc, hi, hrun, hsm, hP, hpP, hM, hpM, hbel⟩ := hrel
      clear HB HmP HmM
      by_cases hin : i < n
      · have hlt : decide ((i : Int) < (n : Int)) = true := decide_eq_true (by omega)
        have i0 : (0 : Int) ≤ (i : Int) := by omega
        have i1 : (i : Int) < (n : Int) := by omega
        have ci := (hbel.out.cell (p := ⟨g, i, none⟩) (World.block_lt_of_cell? w _ (HC.out i hin))).trans (HC.out i hin)
        obtain ⟨si, hsi⟩ : ∃ si, si = ss.getD i ⟨#[]⟩ := ⟨_, rfl⟩
        rw [← hsi] at ci
        have hti : si.data.toList = optT (os.getD i (kD, kD)) := by rw [hsi]; exact HT.out i hin
        have hrun2 := hrun.out.trans (run_drop os i (by have := HL.out; omega) pi mi)
        have hoi := HO.out i hin
        obtain ⟨⟨k, wd⟩, ho⟩ : ∃ o, o = os.getD i (kD, kD) := ⟨_, rfl⟩
        rw [← ho] at hti hrun2 hoi
        clear hsi ho
        simp only at hrun2 hoi
        by_cases hd : k = kD
        · have h1 : si = kD := bytes_ext (by rw [hti, optT, if_pos hd]; simp only [hd])
          subst h1
          have Hout : Hid (InitOut os p m pr ⟨#[]⟩ pr) := Or.inr ⟨by rw [hrun2, if_pos hd], rfl, rfl⟩
          clear hti hrun2 hd hoi
          go_wp2_with fail
          go_ret3
          exact ⟨_, _, rfl, Hout.out, hbel.out⟩
        · rw [if_neg hd] at hrun2
          rw [optT, if_neg hd] at hti
          simp only at hti
          obtain ⟨hk, hwd⟩ : Kind k ∧ wd.size ≤ 1000 := by
            rcases hoi with h | h
            · exact absurd h hd
            · exact h
          have Hrun := Lib.hid hrun2
          have Hwd := Lib.hid hwd
          have he := not_disable (s := si) (by rw [hti]; simp)
          have hkc := kind_colon hk
          have Hcut := Lib.hid (cut_hit si 58 _ _ hti hkc.1 (by rw [Lib.size_eq, hti]; have := hkc.2.2; rw [Lib.size_eq] at this hwd; simp at this hwd ⊢; omega))
          have Hlk := Lib.hid (lk_kind hk)
          have Hkk := Lib.hid hk
          clear hti hrun2 hoi hwd hkc hd hk
          go_wp2_with fail
          refine (Hcut.out _).mono ?_
          rintro e w4 ⟨r1, r2, rfl, hr1, hr2, hb4⟩
          obtain rfl : r1 = k := bytes_ext hr1.out
          obtain rfl : r2 = wd := bytes_ext hr2.out
          have hP := Lib.hid (hP.out.below hb4 hP.out.lt)
          have hM := Lib.hid (hM.out.below hb4 hM.out.lt)
          have hbel := Lib.hid (hbel.out.trans (hb4.mono hbel.out.size))
          clear hb4 hr1 hr2 ci
          go_wp2_with fail
          refine (validOptions_any _).mono ?_
          rintro e w5 ⟨rfl, hm5, hb5⟩
          have e5 := hm5.look Tryd.underlying98 Tryd.underlying9 (zero_bool _) r1 false
          rw [Hlk.out] at e5
          simp only [Bool.false_eq_true, if_false, Option.getD_some] at e5
          have hP := hP.out.below hb5 hP.out.lt
          have hM := hM.out.below hb5 hM.out.lt
          have hbel := Lib.hid (hbel.out.trans (hb5.mono hbel.out.size))
          clear hb5 hm5
          have hne1 : some bm ≠ some w.heap.size := fun e => hne (Option.some.inj e)
          have hne2 : some w.heap.size ≠ some bm := fun e => hne (Option.some.inj e).symm
          have hbb : w.heap.size ≤ bm := Hbm.out
          rcases Hkk.out with rfl | rfl | rfl | rfl | rfl
          all_goals go_wp2_with (first | (at_mapUpdate; refine wpList_store _ rfl _ _ _ 94 rfl 9 9 Tryd.underlying94 Tryd.underlying9 w.heap.size _ rfl hP _ _ rfl rfl ?_; intro w6 hP hg; have hM := hM.kept (hg.block bm hM.lt hne1); have hbel := Lib.hid (hbel.out.grown hg hbel.out.size (fun k hk => by cases hk; exact Nat.le_refl _)); clear hg) | (at_mapUpdate; refine wpList_store _ rfl _ _ _ 94 rfl 9 9 Tryd.underlying94 Tryd.underlying9 bm _ rfl hM _ _ rfl rfl ?_; intro w6 hM hg; have hP := hP.kept (hg.block w.heap.size hP.lt hne2); have hbel := Lib.hid (hbel.out.grown hg hbel.out.size (fun k hk => by cases hk; exact hbb)); clear hg))
          all_goals
            go_roundg (gk - 1)
            case measure => have := hmc.out; omega
            case rel =>
              have := hmc.out
              refine ⟨i + 1, _, _, _, _, by go_num, show _ = _ by omega, by omega, Hrun.out, ⟨small_P hsm.out.1 _ _ Hwd.out, small_M hsm.out.2 _ _ Hwd.out⟩, hP, ?_, hM, ?_, hbel⟩
              · first
                  | (rw [stepP_L]; exact hpP.out.putL _)
                  | (rw [stepP_R]; exact hpP.out.putR _)
                  | (rw [stepP_T]; exact hpP.out.putT _)
                  | (rw [stepP_F]; exact hpP.out)
                  | (rw [stepP_U]; exact hpP.out.putU _)
              · first
                  | (rw [stepM_L]; exact hpM.out.putL _)
                  | (rw [stepM_R]; exact hpM.out)
                  | (rw [stepM_T]; exact hpM.out)
                  | (rw [stepM_F]; exact hpM.out.putT _)
                  | (rw [stepM_U]; exact hpM.out.putU _)
      · obtain rfl : i = n := by omega
        have hlt : decide ((i : Int) < (i : Int)) = false := by simp
        have Hrun : Hid (initRun os p m = some (pi, mi)) := by
          show _ = _
          rw [hrun.out, List.drop_eq_nil_of_le (by have := HL.out; omega)]; rfl
        have HG := Lib.hid (fun W h => get_any w.heap.size lp pi.u pi.r pi.t pi.l hpP.out hsm.out.1.sized W h)
        have HG2 := Lib.hid (fun W h => get_any bm lm mi.u mi.r mi.t mi.l hpM.out hsm.out.2.sized W h)
        clear hrun
        go_wp2_with (go_at_call 70; go_in)
        refine (HG.out _ hP.out).mono ?_
        rintro e w4 ⟨s1, rfl, hs1, rfl⟩
        by_cases hsame : s1 = ps
        · subst hsame
          go_wp2_with (go_at_call 70; go_in)
          refine (HG2.out _ hM.out).mono ?_
          rintro e w5 ⟨s2, rfl, hs2, rfl⟩
          go_wp2_with fail
          go_ret3
          exact ⟨_, _, rfl, Or.inl ⟨pi, mi, Hrun.out, hs1.out, hs2.out⟩, hbel.out⟩
        · have hne5 := ne_toList (a := s1) (b := ps) (fun e => hsame (bytes_ext e))
          clear hsame
          go_wp2_with (go_at_call 70; go_in)
          refine (HG2.out _ hM.out).mono ?_
          rintro e w5 ⟨s2, rfl, hs2, rfl⟩
          go_wp2_with fail
          go_ret3
          exact ⟨_, _, rfl, Or.inl ⟨pi, mi, Hrun.out, hs1.out, hs2.out⟩, hbel.out⟩
end Go.Proofs.YtaloidnoeafgiaaDoor
