/- impl.Levels: the levels of a text, their categories copied. -/
import Derived.Test.YtaloidnoeafgiaaGreatDoorZzLv
namespace Go.Proofs.YtaloidnoeafgiaaGreatDoor
open Go.RowKit Go.Lib

/-- a slice's row lies at block B or behind it -/
def Above (B : Nat) (v : Value) : Prop := ∀ x n c, v = .slice (some x) n c → B ≤ x.block

theorem above_own {W : World} {B n : Nat} {v : Value} {xs : List Value} (h : W.ownsRow B 3 1 v n xs) : Above B v := by
  rcases h.2 with ⟨rfl, _⟩ | ⟨g, cap, cur, rfl, hg, _⟩
  · intro x n c e; cases e
  · intro x n c e
    simp only [Value.slice.injEq, Option.some.injEq] at e
    rw [← e.1]; exact hg

theorem IntsVal.setCell {W : World} {v : Value} {ns : List Nat} (h : IntsVal W v ns) {B : Nat} (hv : Above B v) {a : Addr} (ha : a.block < B) (u : Value) : IntsVal (W.setCell a u) v ns := by
  obtain ⟨ao, c, rfl, hn, ho⟩ := h
  refine ⟨ao, c, rfl, fun i hi => ?_, ho⟩
  obtain ⟨x, rfl, hx, hc⟩ := hn i hi
  have hxb := hv x _ _ rfl
  refine ⟨x, rfl, by simpa [World.setCell] using hx, ?_⟩
  rw [← hc]
  exact World.cell?_of_block (Below.heap_setCell _ _ _ _ (by rw [add_block]; omega))

theorem clone_any (v : Value) (ns : List Nat) (w : World) (h : IntsVal w v ns) (hl : ns.length ≤ 500) :
    Calls Tryz.prog 32 #[v] w fun e w' => ∃ u : Value, e = .returned u ∧ IntsVal w' u ns ∧ Above w.heap.size u ∧ Below w.heap.size w w' := by
  obtain ⟨ao, c, rfl, hn, ⟨rfl, rfl⟩ | ⟨g, rfl⟩⟩ := h
  · refine (Tryz.slices_Clone_int_nil _ c w).mono ?_
    rintro e w' ⟨rfl, rfl⟩
    exact ⟨_, rfl, ⟨none, 0, rfl, hn, Or.inl ⟨rfl, rfl⟩⟩, (fun x n c e => by cases e), Below.refl _ _⟩
  · refine (Tryz.slices_Clone_int g 0 ns.length c (ns.map Int.ofNat) w (by simp) (by omega) ?_).mono ?_
    · intro j hj
      have hj2 : j < ns.length := by simpa using hj
      have h1 := hn.get j hj2
      have e : (⟨g, 0, none⟩ : Addr).add j = ⟨g, 0 + j, none⟩ := by
        unfold Addr.add
        split
        · rename_i h0; rw [h0]
        · rfl
      rw [← e, h1]
      simp [List.getD, List.getElem?_eq_getElem hj2]
    · rintro e w' ⟨u, rfl, hown, _, hb⟩
      have e1 : ((ns.map Int.ofNat).take ns.length).map (Value.int .i64) = intsV ns := by
        rw [List.take_of_length_le (by simp), List.map_map]; rfl
      rw [e1] at hown
      exact ⟨u, rfl, ints_of_own hown, above_own hown, hb⟩

set_option maxRecDepth 100000 in
theorem levelsGuard_idle (p q r : Addr) (w : World) :
    CallsD Tryz.prog 30 #[.pointer (some p), .pointer (some q), .pointer (some r)] .returning w fun e u' w' => e = .returned (.tuple #[]) ∧ u' = .returning ∧ w' = w := by
  refine callsD_of_wpS Tryz.func30 rfl fun c₀ cs hu => ?_
  apply wpS_seq
  apply wpS_region
  simp [wpOpsS, go_sem, recoverD, hu, Tryz.ntmps30, Exit.thenS]
  refine wpS_cond (t := false) (by simp [Act.eval, Array.replicate]) ?_
  simp only [Bool.false_eq_true, if_false]
  refine wpS_of_wp (wp_skip ?_)
  cases c₀
  simp_all [bodyPostS, results, Tryz.results30]

/-- two values hold two lists of numbers -/
def LvOut (B : Nat) (l k : List Nat) (v u : Value) (w' : World) : Prop := IntsVal w' v l ∧ IntsVal w' u k ∧ Above B v ∧ Above B u

set_option maxRecDepth 100000 in
set_option maxHeartbeats 2000000 in
theorem implLevels (s : ByteArray) (a c : Lvd) (l k : List Nat) (hr : ReadsAs s a c) (ha : Mem a l) (hc : Mem c k) (hl : l.length ≤ 500) (hk : k.length ≤ 500) (w : World) :
    Calls Tryz.prog 12 #[.string s] w fun e w' => ∃ v u : Value, e = .returned (.tuple #[.agg #[.int .i64 a.sens, v], .agg #[.int .i64 c.sens, u], .bool true]) ∧ LvOut w.heap.size l k v u w' ∧ Below w.heap.size w w' := by
  have Hr := Lib.hid (zzlevels s a c l k hr ha hc hl hk)
  have hmf : ∀ (fn : Fn) (first cap : Array Value) (w : World), (Instr.makeFunc fn first cap).run Tryz.prog w = .ok (.func fn first cap) w := fun _ _ _ _ => rfl
  clear hr ha hc
  go_enter_defers Tryz.func12, Tryz.ntmps12
  go_wp2_with fail
  refine (Hr.out _).mono ?_
  rintro e w2 ⟨v, u, rfl, hv, hu, hb2⟩
  have q0 : w2.heap[w.heap.size]? = some (.cells #[.int .i64 0, .slice none 0 0] 34 (0, 0)) := by
    rw [hb2.block w.heap.size (by simp <;> omega), Below.heap_alloc _ _ _ (by simp <;> omega), Below.heap_alloc _ _ _ (by simp)]; exact heap_alloc_new _ _
  have q1 : w2.heap[w.heap.size + 1]? = some (.cells #[.int .i64 0, .slice none 0 0] 34 (0, 0)) := by
    rw [hb2.block (w.heap.size + 1) (by simp <;> omega), Below.heap_alloc _ _ _ (by simp)]
    have h := heap_alloc_new (w.alloc (.cells #[.int .i64 0, .slice none 0 0] 34)) (.cells #[.int .i64 0, .slice none 0 0] 34)
    simpa using h
  have q2 : w2.heap[w.heap.size + 1 + 1]? = some (.cells #[.bool false] 4 (0, 0)) := by
    rw [hb2.block (w.heap.size + 1 + 1) (by simp)]
    have h := heap_alloc_new ((w.alloc (.cells #[.int .i64 0, .slice none 0 0] 34)).alloc (.cells #[.int .i64 0, .slice none 0 0] 34)) (.cells #[.bool false] 4)
    simpa using h
  have z2 : w.heap.size + 1 + 1 < w2.heap.size := (Array.getElem?_eq_some_iff.1 q2).1
  have Hb2 : Hid (Below w.heap.size w w2) := (((Below.refl w.heap.size w).alloc (Nat.le_refl _) _).alloc (by simp) _ |>.alloc (by simp; omega) _).trans (hb2.mono (by simp; omega))
  have Hv := Lib.hid hv
  have Hu := Lib.hid hu
  have Q0 := Lib.hid q0
  have Q1 := Lib.hid q1
  have Q2 := Lib.hid q2
  clear hb2 hv hu q0 q1 q2
  go_wp2_with fail
  refine (clone_any v l _ Hv.out hl).mono ?_
  rintro e w3 ⟨v', rfl, hv, hav, hb3⟩
  obtain ⟨av, cv, rfl, hv1, hv2⟩ := hv
  have hv : IntsVal w3 (.slice av l.length cv) l := ⟨av, cv, rfl, hv1, hv2⟩
  have HB3 := Lib.hid hb3
  have Hv := Lib.hid hv
  have Hav : Hid (Above w2.heap.size (.slice av l.length cv)) := hav
  clear hb3 hv hv1 hv2 hav
  go_wp2_with fail
  refine (clone_any u k _ (Hu.out.below HB3.out) hk).mono ?_
  rintro e w4 ⟨u', rfl, hu, hau, hb4⟩
  obtain ⟨au, cu, rfl, hu1, hu2⟩ := hu
  have hu : IntsVal w4 (.slice au k.length cu) k := ⟨au, cu, rfl, hu1, hu2⟩
  have HB4 : Hid (Below w2.heap.size w2 w4) := HB3.out.trans (hb4.mono HB3.out.size)
  have Hv4 : Hid (IntsVal w4 (.slice av l.length cv) l) := Hv.out.below hb4
  have Hu4 := Lib.hid hu
  have q0 : w4.heap[w.heap.size]? = some (.cells #[.int .i64 0, .slice none 0 0] 34 (0, 0)) := by rw [HB4.out.block w.heap.size (by omega)]; exact Q0.out
  have q1 : w4.heap[w.heap.size + 1]? = some (.cells #[.int .i64 0, .slice none 0 0] 34 (0, 0)) := by rw [HB4.out.block (w.heap.size + 1) (by omega)]; exact Q1.out
  have q2 : w4.heap[w.heap.size + 1 + 1]? = some (.cells #[.bool false] 4 (0, 0)) := by rw [HB4.out.block (w.heap.size + 1 + 1) z2]; exact Q2.out
  have c00 := row_cell (l := [.int .i64 0, .slice none 0 0]) q0 (j := 0) rfl
  have c01 := row_cell (l := [.int .i64 0, .slice none 0 0]) q0 (j := 1) rfl
  have c10 := row_cell (l := [.int .i64 0, .slice none 0 0]) q1 (j := 0) rfl
  have c11 := row_cell (l := [.int .i64 0, .slice none 0 0]) q1 (j := 1) rfl
  have c20 := row_cell (l := [.bool false]) q2 (j := 0) rfl
  have f00 := row_free (l := [.int .i64 0, .slice none 0 0]) q0 0
  have f01 := row_free (l := [.int .i64 0, .slice none 0 0]) q0 1
  have f10 := row_free (l := [.int .i64 0, .slice none 0 0]) q1 0
  have f11 := row_free (l := [.int .i64 0, .slice none 0 0]) q1 1
  have f20 := row_free (l := [.bool false]) q2 0
  have Hau : Hid (Above w3.heap.size (.slice au k.length cu)) := hau
  have z3 := HB3.out.size
  clear hb4 hu hu1 hu2 hau q0 q1 q2 Hr
  go_wp2
  refine leaves_cons (f := 30) (args := #[.pointer (some ⟨w.heap.size, 0, none⟩), .pointer (some ⟨w.heap.size + 1, 0, none⟩), .pointer (some ⟨w.heap.size + 1 + 1, 0, none⟩)]) (by simp) (by simp [go_sem]) ?_
  refine (levelsGuard_idle ⟨w.heap.size, 0, none⟩ ⟨w.heap.size + 1, 0, none⟩ ⟨w.heap.size + 1 + 1, 0, none⟩ _).mono ?_
  rintro e u' w'' ⟨rfl, rfl, rfl⟩
  simp [Leaves, settle, results, Tryz.results12, go_sem, c00, c01, c10, c11, c20, f00, f01, f10, f11, f20]
  have sv : ∀ {B : Nat} {v : Value} {ns : List Nat}, IntsVal w4 v ns → Above B v → w.heap.size + 1 + 1 < B → IntsVal (((((w4.setCell ⟨w.heap.size, 0, none⟩ (.int .i64 a.sens)).setCell ⟨w.heap.size, 1, none⟩ (.slice av l.length cv)).setCell ⟨w.heap.size + 1, 0, none⟩ (.int .i64 c.sens)).setCell ⟨w.heap.size + 1, 1, none⟩ (.slice au k.length cu)).setCell ⟨w.heap.size + 1 + 1, 0, none⟩ (.bool true)) v ns := fun h hv hB =>
    ((((h.setCell hv (by show w.heap.size < _; omega) _).setCell hv (by show w.heap.size < _; omega) _).setCell hv (by show w.heap.size + 1 < _; omega) _).setCell hv (by show w.heap.size + 1 < _; omega) _).setCell hv (by show w.heap.size + 1 + 1 < _; omega) _
  have hbf := Hb2.out.trans (HB4.out.mono Hb2.out.size)
  refine ⟨_, _, ⟨rfl, rfl⟩, ⟨sv Hv4.out Hav.out z2, sv Hu4.out Hau.out (by omega), fun x n c e => Nat.le_trans (by omega) (Hav.out x n c e), fun x n c e => Nat.le_trans (by omega) (Hau.out x n c e)⟩, ?_⟩
  exact ((((hbf.setCell (Nat.le_refl _) _).setCell (Nat.le_refl _) _).setCell (Nat.le_succ _) _).setCell (Nat.le_succ _) _).setCell (by show _ ≤ w.heap.size + 1 + 1; omega) _
end Go.Proofs.YtaloidnoeafgiaaGreatDoor
