/- ZZCategories, impl.Categories. -/
import Derived.Test.YtaloidnoeafgiaaDoorRgOut
namespace Go.Proofs.YtaloidnoeafgiaaDoor
open Go.RowKit Go.Lib

/-- a text of categories: some tokens, whose members are a list that grows -/
structure CatText (s : ByteArray) (ns : List Nat) (p : List (Nat × Nat)) : Prop where
  ne : p ≠ []
  text : s.data.toList = CL.tks p
  ok : ∀ t ∈ p, CL.tokOk t
  mem : ∀ x, (∃ t ∈ p, CL.inTok x t) ↔ x ∈ ns
  grows : CL.Gr ns
  short : p.length ≤ 500

theorem CatText.size {s : ByteArray} {ns : List Nat} {p : List (Nat × Nat)} (h : CatText s ns p) : s.size ≤ 6000 := by
  have h1 := CL.tks_len p h.ok
  have h2 := h.short
  rw [Lib.size_eq, h.text]; omega

set_option maxRecDepth 100000 in
set_option maxHeartbeats 2000000 in
theorem zzcats (s : ByteArray) (ns : List Nat) (p : List (Nat × Nat)) (h : CatText s ns p) (w : World) (hT : Tabs w) :
    Calls Tryd.prog 43 #[.string s] w fun e w' => ∃ r : ByteArray, e = .returned (.tuple #[.string r, .nilIface]) ∧ Hid (r.data.toList = CL.catsT ns) ∧ Below w.heap.size w w' := by
  have H := Lib.hid h
  have Hc := Lib.hid (cats_any s p h.ne h.text h.ok (by have := h.size; omega))
  have Ht := Lib.hid hT
  clear h hT
  go_enter Tryd.func43, Tryd.ntmps43
  go_wp2_with fail
  refine (Hc.out _).mono ?_
  rintro e w2 ⟨b, B, ws, rfl, _, hbig, hbits, hb2⟩
  have Hbig := Lib.hid hbig
  have Hbi := Lib.hid hbits
  have Hb := Lib.hid hb2
  clear hbig hbits hb2
  go_wp2_with fail
  refine (toStr_any b B ws ns H.out.grows (fun x => (Hbi.out x).trans (H.out.mem x)) _ Hbig.out (Ht.out.below Hb.out)).mono ?_
  rintro e w3 ⟨r, rfl, hr, hz, hb3⟩
  have Hb3 : Hid (Below w.heap.size w w3) := Hb.out.trans (hb3.mono Hb.out.size)
  clear hb3
  go_wp2_with fail
  go_ret2
  exact ⟨_, rfl, hr, Hb3.out⟩

set_option maxRecDepth 100000 in
theorem catsGuard_idle (p q : Addr) (w : World) :
    CallsD Tryd.prog 42 #[.pointer (some p), .pointer (some q)] .returning w fun e u' w' => e = .returned (.tuple #[]) ∧ u' = .returning ∧ w' = w := by
  refine callsD_of_wpS Tryd.func42 rfl fun c₀ cs hu => ?_
  apply wpS_seq
  apply wpS_region
  simp [wpOpsS, go_sem, recoverD, hu, Tryd.ntmps42, Exit.thenS]
  refine wpS_cond (t := false) (by simp [Act.eval, Array.replicate]) ?_
  simp only [Bool.false_eq_true, if_false]
  refine wpS_of_wp (wp_skip ?_)
  cases c₀
  simp_all [bodyPostS, results, Tryd.results42]

set_option maxRecDepth 100000 in
set_option maxHeartbeats 2000000 in
theorem implCats (s : ByteArray) (ns : List Nat) (p : List (Nat × Nat)) (h : CatText s ns p) (w : World) (hT : Tabs w) :
    Calls Tryd.prog 18 #[.string s] w fun e w' => ∃ r : ByteArray, e = .returned (.tuple #[.string r, .bool true]) ∧ Hid (r.data.toList = CL.catsT ns) ∧ Below w.heap.size w w' := by
  have Hr := Lib.hid (fun w hT => zzcats s ns p h w hT)
  have Ht := Lib.hid hT
  have Hb0 : Hid (Below w.heap.size w ((w.alloc (.cells #[.string ⟨#[]⟩] 9)).alloc (.cells #[.bool false] 4))) := ((Below.refl _ _).alloc (Nat.le_refl _) _).alloc (by simp) _
  have hmf : ∀ (fn : Fn) (first cap : Array Value) (w : World), (Instr.makeFunc fn first cap).run Tryd.prog w = .ok (.func fn first cap) w := fun _ _ _ _ => rfl
  clear h hT
  go_enter_defers Tryd.func18, Tryd.ntmps18
  go_wp2_with fail
  refine (Hr.out _ (Ht.out.below Hb0.out)).mono ?_
  rintro e w2 ⟨r, rfl, hr, hb2⟩
  have Hb2 : Hid (Below w.heap.size w w2) := Hb0.out.trans (hb2.mono (by simp; omega))
  have r0 : w2.heap[w.heap.size]? = some (.cells #[.string ⟨#[]⟩] 9 (0, 0)) := by
    rw [hb2.block w.heap.size (by simp; omega), Below.heap_alloc _ _ _ (by simp)]; exact heap_alloc_new _ _
  have r1 : w2.heap[w.heap.size + 1]? = some (.cells #[.bool false] 4 (0, 0)) := by
    rw [hb2.block (w.heap.size + 1) (by simp)]
    have h := heap_alloc_new (w.alloc (.cells #[.string ⟨#[]⟩] 9)) (.cells #[.bool false] 4)
    simpa using h
  have c0 := row_cell (l := [.string ⟨#[]⟩]) r0 (j := 0) rfl
  have c1 := row_cell (l := [.bool false]) r1 (j := 0) rfl
  have f0 := row_free (l := [.string ⟨#[]⟩]) r0 0
  have f1 := row_free (l := [.bool false]) r1 0
  clear hb2 r0 r1
  go_wp2_with fail
  go_region
  go_wp2
  refine leaves_cons (f := 42) (args := #[.pointer (some ⟨w.heap.size, 0, none⟩), .pointer (some ⟨w.heap.size + 1, 0, none⟩)]) (by simp) (by simp [go_sem]) ?_
  refine (catsGuard_idle ⟨w.heap.size, 0, none⟩ ⟨w.heap.size + 1, 0, none⟩ _).mono ?_
  rintro e u' w'' ⟨rfl, rfl, rfl⟩
  simp [Leaves, settle, results, Tryd.results18, go_sem, c0, c1, f0, f1]
  exact ⟨hr, (((Hb2.out.setCell (Nat.le_refl _) _).setCell (Nat.le_refl _) _).setCell (Nat.le_succ _) _).drew⟩

theorem cat_toks (s : ByteArray) (ns : List Nat) (hs : s.data.toList = CL.catsT ns) (hne : ns ≠ []) (hg : CL.Gr ns) (h9 : ∀ x ∈ ns, x ≤ 9999) (hl : ns.length ≤ 500) : CatText s ns (CL.toksOf ns) :=
  ⟨CL.toksOf_ne ns hne, hs, CL.toksOf_ok ns.length ns (Nat.le_refl _) h9, CL.toksOf_mem ns.length ns (Nat.le_refl _), hg, Nat.le_trans (CL.toksOf_len ns.length ns (Nat.le_refl _)) hl⟩
theorem cat_loose (s : ByteArray) (ns : List Nat) (hs : s.data.toList = CL.tks (CL.looseP ns)) (hne : ns ≠ []) (hg : CL.Gr ns) (h9 : ∀ x ∈ ns, x ≤ 9999) (hl : ns.length ≤ 500) : CatText s ns (CL.looseP ns) :=
  ⟨CL.looseP_ne ns hne, hs, CL.looseP_ok ns h9, CL.looseP_mem ns, hg, by simpa [CL.looseP] using hl⟩

theorem loose_drop (t : ByteArray) (ns : List Nat) (hne : ns ≠ []) (ht : t.data.toList = CL.lvT 0 (CL.looseP ns)) : 3 ≤ t.size ∧ (t.extract 3 t.size).data.toList = CL.tks (CL.looseP ns) := by
  have e : CL.lvT 0 (CL.looseP ns) = 115 :: 48 :: 58 :: CL.tks (CL.looseP ns) := by
    rw [CL.lvT, if_neg (CL.looseP_ne ns hne), dec0]; rfl
  have hz : t.size = (CL.tks (CL.looseP ns)).length + 3 := by rw [Lib.size_eq, ht, e]; simp
  refine ⟨by omega, ?_⟩
  rw [Lib.extract_data, ht, e, hz]
  simp
end Go.Proofs.YtaloidnoeafgiaaDoor
