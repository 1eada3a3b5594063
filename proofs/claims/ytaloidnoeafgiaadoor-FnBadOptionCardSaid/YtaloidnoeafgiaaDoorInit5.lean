/- impl.Init: the labels by options; and that no panic came. -/
import Derived.Test.YtaloidnoeafgiaaDoorInit4
import Derived.Test.YtaloidnoeafgiaaDoorShelf
import Derived.Test.YtaloidnoeafgiaaDoorPort2
import Derived.Defers
import Derived.Recover
import Derived.Laws.Pointers
namespace Go.Proofs.YtaloidnoeafgiaaDoor
open Go.RowKit Go.Lib

set_option maxRecDepth 100000 in
theorem initGuard_idle (p q r : Addr) (w : World) :
    CallsD Tryd.prog 51 #[.pointer (some p), .pointer (some q), .pointer (some r)] .returning w fun e u' w' => e = .returned (.tuple #[]) ∧ u' = .returning ∧ w' = w := by
  refine callsD_of_wpS Tryd.func51 rfl fun c₀ cs hu => ?_
  apply wpS_seq
  apply wpS_region
  simp [wpOpsS, go_sem, recoverD, hu, Tryd.ntmps51, Exit.thenS]
  refine wpS_cond (t := false) (by simp [Act.eval, Array.replicate]) ?_
  simp only [Bool.false_eq_true, if_false]
  refine wpS_of_wp (wp_skip ?_)
  cases c₀
  simp_all [bodyPostS, results, Tryd.results51]

theorem strsV_take (ss : List ByteArray) : (ss.take ss.length).map Value.string = strsV ss := by rw [List.take_length]; rfl

/-- slices.Clone at texts of the call's own -/
theorem clone_strs (B : Nat) (v : Value) (ss : List ByteArray) (w : World) (h : w.ownsRow B 9 1 v ss.length (strsV ss)) (hl : ss.length ≤ 1000) :
    Calls Tryd.prog 53 #[v] w fun e w' => ∃ u : Value, e = .returned u ∧ w'.ownsRow w.heap.size 9 1 u ss.length (strsV ss) ∧ Below w.heap.size w w' := by
  rcases h.2 with ⟨rfl, h0⟩ | ⟨g, cap, cur, rfl, hg, hh, hn, hc, hs, ht⟩
  · have e : ss = [] := List.eq_nil_of_length_eq_zero (by simpa using h0)
    subst e
    refine (Tryd.slices_Clone_string_nil _ _ w).mono ?_
    rintro e w' ⟨rfl, rfl⟩
    exact ⟨_, rfl, World.ownsRow_nil _ _ _ _, Below.refl _ _⟩
  · refine (Tryd.slices_Clone_string g 0 ss.length cap ss w (Nat.le_refl _) (by omega) ?_).mono ?_
    · intro j hj
      have := h.cellAt j (by omega)
      rw [Nat.zero_add]
      rw [this]
      simp [strsV, List.getD, List.getElem?_eq_getElem hj]
    · rintro e w' ⟨u, rfl, hown, _, hb⟩
      rw [strsV_take] at hown
      exact ⟨u, rfl, hown, hb⟩

set_option maxRecDepth 100000 in
theorem initLabels_nil (ao : Option Addr) (c : Nat) (ps ms pr : ByteArray) (w : World) :
    Calls Tryd.prog 52 #[.slice ao 0 c, .string ps, .string ms, .string pr] w fun e w' => e = .returned (.tuple #[.string ps, .string ms, .nilIface]) ∧ Below w.heap.size w w' := by
  by_cases h : ps.size = 0
  · obtain rfl := size0 h
    go_enter Tryd.func52, Tryd.ntmps52
    go_wp2_with fail
    go_ret3
    exact ⟨rfl, Below.refl _ _⟩
  · have hp := (str_some ps (fun e => h (by rw [Lib.size_eq, e]; rfl))).1
    clear h
    go_enter Tryd.func52, Tryd.ntmps52
    go_wp2_with fail
    go_ret3
    exact ⟨rfl, Below.refl _ _⟩

/-- InitLabels at options that are ones -/
theorem initLabels_any (B : Nat) (v : Value) (ss : List ByteArray) (os : List (ByteArray × ByteArray)) (hss : ss.map (fun x => x.data.toList) = os.map optT) (hok : ∀ o ∈ os, OptOk o) (hn : ss.length ≤ 1000) (ps ms pr : ByteArray) (p m : Lab) (hps : ps.data.toList = p.text) (hms : ms.data.toList = m.text) (hp : p.Ok) (hm : m.Ok) (w : World)
    (h : w.ownsRow B 9 1 v ss.length (strsV ss)) :
    Calls Tryd.prog 52 #[v, .string ps, .string ms, .string pr] w fun e w' => ∃ a b : ByteArray, e = .returned (.tuple #[.string a, .string b, .nilIface]) ∧ Hid (InitOut os p m pr a b) ∧ Below w.heap.size w w' := by
  by_cases h0 : ss.length = 0
  · obtain ⟨ao, c, rfl⟩ := owns_shape' h
    rw [h0]
    have e : os = [] := List.eq_nil_of_length_eq_zero (by have := congrArg List.length hss; simp at this; omega)
    subst e
    refine (initLabels_nil ao c ps ms pr w).mono ?_
    rintro e w' ⟨rfl, hb⟩
    exact ⟨ps, ms, rfl, Or.inl ⟨p, m, rfl, hps, hms⟩, hb⟩
  · obtain ⟨ao, c, rfl⟩ := owns_shape' h
    obtain ⟨_, g, rfl, _, _, hc⟩ := own_strs h (by omega)
    exact initLabels_ok g c ss os hss hok h0 hn ps ms pr p m hps hms hp hm w hc

set_option maxRecDepth 100000 in
set_option maxHeartbeats 4000000 in
theorem implInit_ok (B : Nat) (v : Value) (ss : List ByteArray) (os : List (ByteArray × ByteArray)) (hss : ss.map (fun x => x.data.toList) = os.map optT) (hok : ∀ o ∈ os, OptOk o) (hn : ss.length ≤ 1000) (ps ms pr : ByteArray) (p m : Lab) (hps : ps.data.toList = p.text) (hms : ms.data.toList = m.text) (hp : p.Ok) (hm : m.Ok) (w : World)
    (h : w.ownsRow B 9 1 v ss.length (strsV ss)) :
    Calls Tryd.prog 30 #[v, .string ps, .string ms, .string pr] w fun e w' => ∃ a b : ByteArray, e = .returned (.tuple #[.string a, .string b, .bool true]) ∧ Hid (InitOut os p m pr a b) ∧ Below w.heap.size w w' := by
  have Hi := Lib.hid (fun B' v' w' h' => initLabels_any B' v' ss os hss hok hn ps ms pr p m hps hms hp hm w' h')
  have Hc := Lib.hid (fun w' h' => clone_strs B v ss w' h' hn)
  have H0 : Hid ((((w.alloc (.cells #[.string ⟨#[]⟩] 9)).alloc (.cells #[.string ⟨#[]⟩] 9)).alloc (.cells #[.bool false] 4)).ownsRow B 9 1 v ss.length (strsV ss)) := ((h.alloc _).alloc _).alloc _
  have Hb0 : Hid (Below w.heap.size w (((w.alloc (.cells #[.string ⟨#[]⟩] 9)).alloc (.cells #[.string ⟨#[]⟩] 9)).alloc (.cells #[.bool false] 4))) := (((Below.refl _ _).alloc (Nat.le_refl _) _).alloc (by simp) _).alloc (by simp; omega) _
  have hmf : ∀ (fn : Fn) (first cap : Array Value) (w : World), (Instr.makeFunc fn first cap).run Tryd.prog w = .ok (.func fn first cap) w := fun _ _ _ _ => rfl
  clear hss hok hps hms hp hm h
  go_enter_defers Tryd.func30, Tryd.ntmps30
  go_wp2_with fail
  refine (Hc.out _ H0.out).mono ?_
  rintro e w2 ⟨u, rfl, hown, hb2⟩
  have q0 : w2.heap[w.heap.size]? = some (.cells #[.string ⟨#[]⟩] 9 (0, 0)) := by
    rw [hb2.block w.heap.size (by simp <;> omega), Below.heap_alloc _ _ _ (by simp <;> omega), Below.heap_alloc _ _ _ (by simp)]; exact heap_alloc_new _ _
  have q1 : w2.heap[w.heap.size + 1]? = some (.cells #[.string ⟨#[]⟩] 9 (0, 0)) := by
    rw [hb2.block (w.heap.size + 1) (by simp <;> omega), Below.heap_alloc _ _ _ (by simp)]
    have h := heap_alloc_new (w.alloc (.cells #[.string ⟨#[]⟩] 9)) (.cells #[.string ⟨#[]⟩] 9)
    simpa using h
  have q2 : w2.heap[w.heap.size + 1 + 1]? = some (.cells #[.bool false] 4 (0, 0)) := by
    rw [hb2.block (w.heap.size + 1 + 1) (by simp)]
    have h := heap_alloc_new ((w.alloc (.cells #[.string ⟨#[]⟩] 9)).alloc (.cells #[.string ⟨#[]⟩] 9)) (.cells #[.bool false] 4)
    simpa using h
  have z2 : w.heap.size + 1 + 1 < w2.heap.size := (Array.getElem?_eq_some_iff.1 q2).1
  have Q0 := Lib.hid q0
  have Q1 := Lib.hid q1
  have Q2 := Lib.hid q2
  have Hb2 : Hid (Below w.heap.size w w2) := Hb0.out.trans (hb2.mono (by simp; omega))
  clear hb2 q0 q1 q2
  go_wp2_with fail
  refine (Hi.out _ _ _ hown).mono ?_
  rintro e w3 ⟨a, b, rfl, hout, hb3⟩
  have q0 : w3.heap[w.heap.size]? = some (.cells #[.string ⟨#[]⟩] 9 (0, 0)) := by rw [hb3.block w.heap.size (by omega)]; exact Q0.out
  have q1 : w3.heap[w.heap.size + 1]? = some (.cells #[.string ⟨#[]⟩] 9 (0, 0)) := by rw [hb3.block (w.heap.size + 1) (by omega)]; exact Q1.out
  have q2 : w3.heap[w.heap.size + 1 + 1]? = some (.cells #[.bool false] 4 (0, 0)) := by rw [hb3.block (w.heap.size + 1 + 1) z2]; exact Q2.out
  have Hb3 : Hid (Below w.heap.size w w3) := Hb2.out.trans (hb3.mono Hb2.out.size)
  have c0 := row_cell (l := [.string ⟨#[]⟩]) q0 (j := 0) rfl
  have c1 := row_cell (l := [.string ⟨#[]⟩]) q1 (j := 0) rfl
  have c2 := row_cell (l := [.bool false]) q2 (j := 0) rfl
  have f0 := row_free (l := [.string ⟨#[]⟩]) q0 0
  have f1 := row_free (l := [.string ⟨#[]⟩]) q1 0
  have f2 := row_free (l := [.bool false]) q2 0
  clear hb3 q0 q1 q2 Q0 Q1 Q2 Hi Hc H0 hown
  go_wp2_with fail
  go_region
  go_wp2
  refine leaves_cons (f := 51) (args := #[.pointer (some ⟨w.heap.size, 0, none⟩), .pointer (some ⟨w.heap.size + 1, 0, none⟩), .pointer (some ⟨w.heap.size + 1 + 1, 0, none⟩)]) (by simp) (by simp [go_sem]) ?_
  refine (initGuard_idle ⟨w.heap.size, 0, none⟩ ⟨w.heap.size + 1, 0, none⟩ ⟨w.heap.size + 1 + 1, 0, none⟩ _).mono ?_
  rintro e u' w'' ⟨rfl, rfl, rfl⟩
  have n01 : (⟨w.heap.size, 0, none⟩ : Addr) ≠ ⟨w.heap.size + 1, 0, none⟩ := by simp
  have e1 : (((w3.setCell ⟨w.heap.size, 0, none⟩ (.string a)).setCell ⟨w.heap.size + 1, 0, none⟩ (.string b)).setCell ⟨w.heap.size, 0, none⟩ (.string a)).cell? ⟨w.heap.size + 1, 0, none⟩ = some (.string b) := by
    exact (World.cell?_setCell_other _ _ _ _ n01).trans (World.cell?_setCell_same _ _ _ (u := .string ⟨#[]⟩) ((World.cell?_setCell_other _ _ _ _ n01).trans c1))
  have e2 := World.cell?_setCell_same _ _ (.string b) e1
  simp [Leaves, settle, results, Tryd.results30, go_sem, c0, c1, c2, f0, f1, f2, e2]
  exact ⟨a, b, ⟨rfl, rfl⟩, hout, (((((Hb3.out.setCell (Nat.le_refl _) _).setCell (Nat.le_succ _) _).setCell (Nat.le_refl _) _).setCell (Nat.le_succ _) _).setCell (by show _ ≤ w.heap.size + 1 + 1; omega) _).drew⟩
set_option maxRecDepth 100000 in
set_option maxHeartbeats 4000000 in
theorem implInit_bad (B : Nat) (v : Value) (ss : List ByteArray) (hn : ss.length ≤ 1000) (ps ms pr : ByteArray) (hbad : ∀ B' v' w', World.ownsRow w' B' 9 1 v' ss.length (strsV ss) → Calls Tryd.prog 52 #[v', .string ps, .string ms, .string pr] w' fun e w'' => ∃ p : Nat, e = .returned (.tuple #[.string ⟨#[]⟩, .string ⟨#[]⟩, .iface 115 (.pointer (some ⟨p, 0, none⟩))]) ∧ Below w'.heap.size w' w'') (w : World)
    (h : w.ownsRow B 9 1 v ss.length (strsV ss)) :
    Calls Tryd.prog 30 #[v, .string ps, .string ms, .string pr] w fun e w' => e = .returned (.tuple #[.string ⟨#[]⟩, .string ⟨#[]⟩, .bool false]) ∧ Below w.heap.size w w' := by
  have Hi := Lib.hid hbad
  have Hc := Lib.hid (fun w' h' => clone_strs B v ss w' h' hn)
  have H0 : Hid ((((w.alloc (.cells #[.string ⟨#[]⟩] 9)).alloc (.cells #[.string ⟨#[]⟩] 9)).alloc (.cells #[.bool false] 4)).ownsRow B 9 1 v ss.length (strsV ss)) := ((h.alloc _).alloc _).alloc _
  have Hb0 : Hid (Below w.heap.size w (((w.alloc (.cells #[.string ⟨#[]⟩] 9)).alloc (.cells #[.string ⟨#[]⟩] 9)).alloc (.cells #[.bool false] 4))) := (((Below.refl _ _).alloc (Nat.le_refl _) _).alloc (by simp) _).alloc (by simp; omega) _
  have hmf : ∀ (fn : Fn) (first cap : Array Value) (w : World), (Instr.makeFunc fn first cap).run Tryd.prog w = .ok (.func fn first cap) w := fun _ _ _ _ => rfl
  clear hbad h
  go_enter_defers Tryd.func30, Tryd.ntmps30
  go_wp2_with fail
  refine (Hc.out _ H0.out).mono ?_
  rintro e w2 ⟨u, rfl, hown, hb2⟩
  have q0 : w2.heap[w.heap.size]? = some (.cells #[.string ⟨#[]⟩] 9 (0, 0)) := by
    rw [hb2.block w.heap.size (by simp <;> omega), Below.heap_alloc _ _ _ (by simp <;> omega), Below.heap_alloc _ _ _ (by simp)]; exact heap_alloc_new _ _
  have q1 : w2.heap[w.heap.size + 1]? = some (.cells #[.string ⟨#[]⟩] 9 (0, 0)) := by
    rw [hb2.block (w.heap.size + 1) (by simp <;> omega), Below.heap_alloc _ _ _ (by simp)]
    have h := heap_alloc_new (w.alloc (.cells #[.string ⟨#[]⟩] 9)) (.cells #[.string ⟨#[]⟩] 9)
    simpa using h
  have q2 : w2.heap[w.heap.size + 1 + 1]? = some (.cells #[.bool false] 4 (0, 0)) := by
    rw [hb2.block (w.heap.size + 1 + 1) (by simp)]
    have h := heap_alloc_new ((w.alloc (.cells #[.string ⟨#[]⟩] 9)).alloc (.cells #[.string ⟨#[]⟩] 9)) (.cells #[.bool false] 4)
    simpa using h
  have z2 : w.heap.size + 1 + 1 < w2.heap.size := (Array.getElem?_eq_some_iff.1 q2).1
  have Q0 := Lib.hid q0
  have Q1 := Lib.hid q1
  have Q2 := Lib.hid q2
  have Hb2 : Hid (Below w.heap.size w w2) := Hb0.out.trans (hb2.mono (by simp; omega))
  clear hb2 q0 q1 q2
  go_wp2_with fail
  refine (Hi.out _ _ _ hown).mono ?_
  rintro e w3 ⟨pe, rfl, hb3⟩
  have q0 : w3.heap[w.heap.size]? = some (.cells #[.string ⟨#[]⟩] 9 (0, 0)) := by rw [hb3.block w.heap.size (by omega)]; exact Q0.out
  have q1 : w3.heap[w.heap.size + 1]? = some (.cells #[.string ⟨#[]⟩] 9 (0, 0)) := by rw [hb3.block (w.heap.size + 1) (by omega)]; exact Q1.out
  have q2 : w3.heap[w.heap.size + 1 + 1]? = some (.cells #[.bool false] 4 (0, 0)) := by rw [hb3.block (w.heap.size + 1 + 1) z2]; exact Q2.out
  have Hb3 : Hid (Below w.heap.size w w3) := Hb2.out.trans (hb3.mono Hb2.out.size)
  have c0 := row_cell (l := [.string ⟨#[]⟩]) q0 (j := 0) rfl
  have c1 := row_cell (l := [.string ⟨#[]⟩]) q1 (j := 0) rfl
  have c2 := row_cell (l := [.bool false]) q2 (j := 0) rfl
  have f0 := row_free (l := [.string ⟨#[]⟩]) q0 0
  have f1 := row_free (l := [.string ⟨#[]⟩]) q1 0
  have f2 := row_free (l := [.bool false]) q2 0
  clear hb3 q0 q1 q2 Q0 Q1 Q2 Hi Hc H0 hown
  go_wp2_with fail
  go_region
  go_wp2
  refine leaves_cons (f := 51) (args := #[.pointer (some ⟨w.heap.size, 0, none⟩), .pointer (some ⟨w.heap.size + 1, 0, none⟩), .pointer (some ⟨w.heap.size + 1 + 1, 0, none⟩)]) (by simp) (by simp [go_sem]) ?_
  refine (initGuard_idle ⟨w.heap.size, 0, none⟩ ⟨w.heap.size + 1, 0, none⟩ ⟨w.heap.size + 1 + 1, 0, none⟩ _).mono ?_
  rintro e u' w'' ⟨rfl, rfl, rfl⟩
  have n01 : (⟨w.heap.size, 0, none⟩ : Addr) ≠ ⟨w.heap.size + 1, 0, none⟩ := by simp
  have e1 : (((w3.setCell ⟨w.heap.size, 0, none⟩ (.string ⟨#[]⟩)).setCell ⟨w.heap.size + 1, 0, none⟩ (.string ⟨#[]⟩)).setCell ⟨w.heap.size, 0, none⟩ (.string ⟨#[]⟩)).cell? ⟨w.heap.size + 1, 0, none⟩ = some (.string ⟨#[]⟩) := by
    exact (World.cell?_setCell_other _ _ _ _ n01).trans (World.cell?_setCell_same _ _ _ (u := .string ⟨#[]⟩) ((World.cell?_setCell_other _ _ _ _ n01).trans c1))
  have e2 := World.cell?_setCell_same _ _ (.string ⟨#[]⟩) e1
  simp [Leaves, settle, results, Tryd.results30, go_sem, c0, c1, c2, f0, f1, f2, e2]
  exact (((((Hb3.out.setCell (Nat.le_refl _) _).setCell (Nat.le_succ _) _).setCell (Nat.le_refl _) _).setCell (Nat.le_succ _) _).setCell (by show _ ≤ w.heap.size + 1 + 1; omega) _).drew

set_option maxRecDepth 100000 in
set_option maxHeartbeats 4000000 in
theorem initLabels_bad (g c : Nat) (s : ByteArray) (ps ms pr : ByteArray) (p m : Lab) (hps : ps.data.toList = p.text) (hms : ms.data.toList = m.text) (hp : p.Ok) (hm : m.Ok) (hd : s ≠ kD) (hs : s.size ≤ 100000)
    (hw : (58 : UInt8) ∉ s.data.toList ∨ ∃ k d : ByteArray, s.data.toList = k.data.toList ++ 58 :: d.data.toList ∧ (58 : UInt8) ∉ k.data.toList ∧ lk optL k = none) (w : World) (hc : w.cell? ⟨g, 0, none⟩ = some (.string s)) :
    Calls Tryd.prog 52 #[.slice (some ⟨g, 0, none⟩) 1 c, .string ps, .string ms, .string pr] w fun e w' => ∃ p : Nat, e = .returned (.tuple #[.string ⟨#[]⟩, .string ⟨#[]⟩, .iface 115 (.pointer (some ⟨p, 0, none⟩))]) ∧ Below w.heap.size w w' := by
  have hps2 := labT_size hp.small hps
  have hms2 := labT_size hm.small hms
  have Hnp := Lib.hid (newContext_any ps p.u p.r p.t p.l hps hp.u hp.r hp.t (by omega))
  have Hnm := Lib.hid (newContext_any ms m.u m.r m.t m.l hms hm.u hm.r hm.t (by omega))
  have hpe := (str_some ps (fun e => by rw [Lib.size_eq, e] at hps2; simp at hps2)).1
  have he := lit_ne hd
  have hlt := World.block_lt_of_cell? w _ hc
  have Hw := Lib.hid hw
  clear hps hms hp hm hd hw
  go_enter Tryd.func52, Tryd.ntmps52
  go_wp2_with (go_at_call 66; go_in)
  refine (Hnp.out _).mono ?_
  rintro e w2 ⟨rfl, _, hb2⟩
  have HB := Lib.hid hb2
  clear hb2
  go_wp2_with (go_at_call 66; go_in)
  refine (Hnm.out _).mono ?_
  rintro e w3 ⟨rfl, _, hb3⟩
  have HB := Lib.hid (HB.out.trans (hb3.mono HB.out.size))
  have c3 := (HB.out.cell (p := ⟨g, 0, none⟩) hlt).trans hc
  clear hb3 hc hpe
  go_wp2_with fail
  refine wp_loop_rounds 1 ?_
  rw [rounds_succ]
  rcases Hw.out with hno | ⟨k, d, hkd, hk, hlk⟩
  · have Hcut := Lib.hid (cut_miss s 58 hno (by omega))
    clear hno
    go_wp2_with fail
    refine (Hcut.out _).mono ?_
    rintro e w4 ⟨rfl, hb4⟩
    have HB := Lib.hid (HB.out.trans (hb4.mono HB.out.size))
    clear hb4
    go_wp2_with fail
    refine (errorsNew _ _).mono ?_
    rintro e w5 ⟨pe, rfl, hb5⟩
    have HB := Lib.hid (HB.out.trans (hb5.mono HB.out.size))
    clear hb5
    go_wp2_with fail
    go_ret3
    exact ⟨_, rfl, HB.out⟩
  · have Hcut := Lib.hid (cut_hit s 58 _ _ hkd hk (by omega))
    have Hlk := Lib.hid hlk
    clear hkd hk hlk
    go_wp2_with fail
    refine (Hcut.out _).mono ?_
    rintro e w4 ⟨r1, r2, rfl, hr1, hr2, hb4⟩
    obtain rfl : r1 = k := bytes_ext hr1.out
    have HB := Lib.hid (HB.out.trans (hb4.mono HB.out.size))
    clear hb4 hr1 hr2
    go_wp2_with fail
    refine (validOptions_any _).mono ?_
    rintro e w5 ⟨rfl, hm5, hb5⟩
    have e5 := hm5.look Tryd.underlying98 Tryd.underlying9 (zero_bool _) r1 false
    rw [Hlk.out] at e5
    simp only [Bool.false_eq_true, if_false, Option.getD_none] at e5
    have HB := Lib.hid (HB.out.trans (hb5.mono HB.out.size))
    clear hb5 hm5
    go_wp2_with fail
    refine (errorsNew _ _).mono ?_
    rintro e w6 ⟨pe, rfl, hb6⟩
    have HB := Lib.hid (HB.out.trans (hb6.mono HB.out.size))
    clear hb6
    go_wp2_with fail
    go_ret3
    exact ⟨_, rfl, HB.out⟩
end Go.Proofs.YtaloidnoeafgiaaDoor
