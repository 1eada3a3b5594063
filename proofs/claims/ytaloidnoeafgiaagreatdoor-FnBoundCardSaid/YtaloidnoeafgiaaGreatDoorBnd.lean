/- impl.Bound where two ranges have nothing in common; both orders. -/
import Derived.Test.YtaloidnoeafgiaaGreatDoorImplB
import Derived.Test.YtaloidnoeafgiaaGreatDoorSpec8
namespace Go.Proofs.YtaloidnoeafgiaaGreatDoor
open Go.RowKit Go.Lib

/-- calculateGlbLub answers with an error -/
def NoBound (s t : ByteArray) : Prop := ∀ w, Calls Tryz.prog 44 #[.string s, .string t] w fun e w' => ∃ (te : TypeId) (pe : Value), e = .returned (.tuple #[.string ⟨#[]⟩, .iface te pe]) ∧ Below w.heap.size w w'

set_option maxRecDepth 100000 in
set_option maxHeartbeats 8000000 in
theorem glb_none (s t : ByteArray) (a c a' c' : Lvd) (hr : ReadsAs s a c) (ht : ReadsAs t a' c') (h : c.sens < a'.sens ∨ c'.sens < a.sens) : NoBound s t := by
  intro w
  have Hr := Lib.hid hr
  have Ht := Lib.hid ht
  clear hr ht
  go_enter Tryz.func44, Tryz.ntmps44
  go_wp2_with fail
  refine (Hr.out _).mono ?_
  rintro e w2 ⟨rb, rfl, hg, hb2⟩
  obtain ⟨lb, hb, hg⟩ := Rg.of hg
  have HG := Lib.hid hg
  have HB := Lib.hid hb2
  clear hg hb2
  go_wp2_with fail
  refine (Ht.out _).mono ?_
  rintro e w3 ⟨rb', rfl, hg', hb3⟩
  obtain ⟨lb', hb', hg'⟩ := Rg.of hg'
  have HG := Lib.hid (HG.out.below hb3)
  have HB : Hid (Below w.heap.size w w3) := HB.out.trans (hb3.mono HB.out.size)
  have c0 := HG.out.c0
  have c1 := HG.out.c1
  have p1 := HG.out.p1
  have q1 := HG.out.q1
  have c0' := hg'.c0
  have c1' := hg'.c1
  have p1' := hg'.p1
  have q1' := hg'.q1
  clear hg' hb3
  by_cases h1 : c.sens < a'.sens
  · have d1 : decide ((c.sens : Int) < (a'.sens : Int)) = true := by simp; omega
    have d1n : decide (c.sens < a'.sens) = true := decide_eq_true h1
    clear h h1
    go_upto_region 7 with fail
    go_quiet (fail)
    go_wp2_with fail
    go_ret2
    exact ⟨_, _, rfl, below_drewN HB.out _⟩
  · have d1 : decide ((c.sens : Int) < (a'.sens : Int)) = false := by simp; omega
    have d1n : decide (c.sens < a'.sens) = false := decide_eq_false h1
    have d2 : decide ((c'.sens : Int) < (a.sens : Int)) = true := by simp; omega
    have d2n : decide (c'.sens < a.sens) = true := decide_eq_true (by omega)
    clear h h1
    go_upto_region 7 with fail
    go_quiet (fail)
    go_wp2_with fail
    go_ret2
    exact ⟨_, _, rfl, below_drewN HB.out _⟩

set_option maxRecDepth 100000 in
set_option maxHeartbeats 2000000 in
theorem glb_hands_none (s t : ByteArray) (h : NoBound s t) (w : World) :
    Calls Tryz.prog 27 #[.string s, .string t] w fun e w' => ∃ (te : TypeId) (pe : Value), e = .returned (.tuple #[.string ⟨#[]⟩, .iface te pe]) ∧ Below w.heap.size w w' := by
  have H := Lib.hid (h w)
  clear h
  go_enter Tryz.func27, Tryz.ntmps27
  go_wp2_with fail
  refine H.out.mono ?_
  rintro e w2 ⟨te, pe, rfl, hb2⟩
  go_wp2_with fail
  go_ret2
  exact ⟨_, _, rfl, hb2⟩

set_option maxRecDepth 100000 in
set_option maxHeartbeats 2000000 in
theorem implBound_none (s t : ByteArray) (h : NoBound s t) (w : World) :
    Calls Tryz.prog 10 #[.string s, .string t] w fun e w' => e = .returned (.tuple #[.string ⟨#[]⟩, .bool false]) ∧ Below w.heap.size w w' := by
  have Hr := Lib.hid (glb_hands_none s t h)
  have Hb0 : Hid (Below w.heap.size w ((w.alloc (.cells #[.string ⟨#[]⟩] 9)).alloc (.cells #[.bool false] 4))) := ((Below.refl _ _).alloc (Nat.le_refl _) _).alloc (by simp) _
  have hmf : ∀ (fn : Fn) (first cap : Array Value) (w : World), (Instr.makeFunc fn first cap).run Tryz.prog w = .ok (.func fn first cap) w := fun _ _ _ _ => rfl
  clear h
  go_enter_defers Tryz.func10, Tryz.ntmps10
  go_wp2_with fail
  refine (Hr.out _).mono ?_
  rintro e w2 ⟨te, pe, rfl, hb2⟩
  have Hb2 : Hid (Below w.heap.size w w2) := Hb0.out.trans (hb2.mono (by simp; omega))
  have r0 : w2.heap[w.heap.size]? = some (.cells #[.string ⟨#[]⟩] 9 (0, 0)) := by
    rw [hb2.block w.heap.size (by simp; omega), Below.heap_alloc _ _ _ (by simp)]; exact heap_alloc_new _ _
  have r1 : w2.heap[w.heap.size + 1]? = some (.cells #[.bool false] 4 (0, 0)) := by
    rw [hb2.block (w.heap.size + 1) (by simp)]
    have h := heap_alloc_new (w.alloc (.cells #[.string ⟨#[]⟩] 9)) (.cells #[.bool false] 4)
    simpa using h
  have c0 := row_cell (l := [.string ⟨#[]⟩]) r0 (j := 0) rfl
  have c1 := row_cell (l := [.bool false]) r1 (j := 0) rfl
  have f0 := row_free (l := [.string ⟨#[]⟩]) r0 0
  have f1 := row_free (l := [.bool false]) r1 0
  clear hb2 r0 r1
  go_wp2_with fail
  go_region
  go_wp2
  refine leaves_cons (f := 26) (args := #[.pointer (some ⟨w.heap.size, 0, none⟩), .pointer (some ⟨w.heap.size + 1, 0, none⟩)]) (by simp) (by simp [go_sem]) ?_
  refine (boundGuard_idle ⟨w.heap.size, 0, none⟩ ⟨w.heap.size + 1, 0, none⟩ _).mono ?_
  rintro e u' w'' ⟨rfl, rfl, rfl⟩
  simp [Leaves, settle, results, Tryz.results10, go_sem, c0, c1, f0, f1]
  exact ((((Hb2.out.setCell (Nat.le_refl _) _).setCell (Nat.le_refl _) _).setCell (Nat.le_succ _) _).drew)

theorem lvSame_both {n n' m m' : Nat} {a a' c c' : Lvd} (e1 : n = n') (e2 : m = m') : LvSame (both n a a') (both m c c') ↔ LvSame (both n' a' a) (both m' c' c) := by
  subst e1 e2
  unfold LvSame both
  dsimp only
  rw [Bool.and_comm a'.has, Bool.and_comm c'.has]
  constructor
  · rintro ⟨h1, h2, h3⟩
    exact ⟨h1, h2, fun x => by rw [And.comm, h3 x, And.comm]⟩
  · rintro ⟨h1, h2, h3⟩
    exact ⟨h1, h2, fun x => by rw [And.comm, h3 x, And.comm]⟩

/-- what two ranges have in common, in both orders: one text -/
theorem bound_two (tA tB : ByteArray) (s s' t t' : Nat) (hs : s ≤ 9999) (hs' : s' ≤ 9999) (ht : t ≤ 9999) (ht' : t' ≤ 9999) (ns ns' ks ks' : List Nat) (g1 : CL.Gr ns) (g2 : CL.Gr ns') (g3 : CL.Gr ks) (g4 : CL.Gr ks') (h1 : ∀ x ∈ ns, x ≤ 9999) (h2 : ∀ x ∈ ns', x ≤ 9999) (h3 : ∀ x ∈ ks, x ≤ 9999) (h4 : ∀ x ∈ ks', x ≤ 9999)
    (l1 : ns.length ≤ 500) (l2 : ns'.length ≤ 500) (l3 : ks.length ≤ 500) (l4 : ks'.length ≤ 500) (hA : tA.data.toList = spanT s ns s' ns') (hB : tB.data.toList = spanT t ks t' ks') :
    (¬ s' < t ∧ ¬ t' < s ∧ ∃ tG : ByteArray, BoundAs tA tB (fun r => r = tG) ∧ BoundAs tB tA (fun r => r = tG) ∧ ∃ a c, ReadsAs tG a c ∧ Lv a (max s t) (comL ns ks) ∧ Lv c (min s' t') (comL ns' ks')) ∨
    ((s' < t ∨ t' < s) ∧ NoBound tA tB ∧ NoBound tB tA) := by
  obtain ⟨a, c, hr, ha, hc⟩ := span_reads tA s s' hs hs' ns ns' g1 g2 h1 h2 l1 l2 hA
  obtain ⟨a', c', hr', ha', hc'⟩ := span_reads tB t t' ht ht' ks ks' g3 g4 h3 h4 l3 l4 hB
  have ea := ha.sens
  have ec := hc.sens
  have ea' := ha'.sens
  have ec' := hc'.sens
  by_cases hin : s' < t ∨ t' < s
  · exact Or.inr ⟨hin, glb_none tA tB a c a' c' hr hr' (by rw [ea, ec, ea', ec']; exact hin), glb_none tB tA a' c' a c hr' hr (by rw [ea, ec, ea', ec']; exact hin.symm)⟩
  refine Or.inl ⟨fun h => hin (Or.inl h), fun h => hin (Or.inr h), ?_⟩
  have i1 : ¬ s' < t := fun h => hin (Or.inl h)
  have i2 : ¬ t' < s := fun h => hin (Or.inr h)
  -- the text
  obtain ⟨q, hq⟩ : ∃ q : Bool, EqIs q (both (max a.sens a'.sens) a a') (both (min c.sens c'.sens) c c') := by
    by_cases h : LvSame (both (max a.sens a'.sens) a a') (both (min c.sens c'.sens) c c')
    · exact ⟨true, fun _ => h, fun _ => rfl⟩
    · exact ⟨false, fun e => (by cases e), fun e => absurd e h⟩
  obtain ⟨tG, htG⟩ : ∃ x : ByteArray, x.data.toList = rgT q (both (max a.sens a'.sens) a a') (both (min c.sens c'.sens) c c') (comL ns ks) (comL ns' ks') := ⟨⟨(rgT q _ _ _ _).toArray⟩, rfl⟩
  have hG : RgOut tG (both (max a.sens a'.sens) a a') (both (min c.sens c'.sens) c c') (comL ns ks) (comL ns' ks') := ⟨q, hq, htG⟩
  refine ⟨tG, ?_, ?_, ?_⟩
  · intro w hT
    refine (glb_ok tA tB a c a' c' ns ns' ks ks' hr hr' ha.mem hc.mem ha'.mem hc'.mem (by omega) (by omega) (by omega) (by omega) (by rw [ec, ea']; exact i1) (by rw [ec', ea]; exact i2) w hT).mono ?_
    rintro e w' ⟨r, rfl, ho, hb⟩
    exact ⟨r, rfl, out_eq ho hG rfl rfl Iff.rfl, hb⟩
  · intro w hT
    refine (glb_ok tB tA a' c' a c ks ks' ns ns' hr' hr ha'.mem hc'.mem ha.mem hc.mem (by omega) (by omega) (by omega) (by omega) (by rw [ec', ea]; exact i2) (by rw [ec, ea']; exact i1) w hT).mono ?_
    rintro e w' ⟨r, rfl, ho, hb⟩
    rw [comL_comm g3 g1, comL_comm g4 g2] at ho
    exact ⟨r, rfl, out_eq ho hG (Nat.max_comm _ _) (Nat.min_comm _ _) (lvSame_both (Nat.max_comm _ _) (Nat.min_comm _ _)), hb⟩
  · have q1 := LvM.both (n := max a.sens a'.sens) ⟨ea, ha.mem⟩ ⟨ea', ha'.mem⟩
    have q2 := LvM.both (n := min c.sens c'.sens) ⟨ec, hc.mem⟩ ⟨ec', hc'.mem⟩
    obtain ⟨x, y, h5, h6, h7⟩ := out_reads q1 q2 (by omega) (by omega) (comL_le ks h1) (comL_le ks' h2) (Nat.le_trans (comL_len ns ks) l1) (Nat.le_trans (comL_len ns' ks') l2) hG
    rw [ea, ea'] at h6
    rw [ec, ec'] at h7
    exact ⟨x, y, h5, h6, h7⟩
end Go.Proofs.YtaloidnoeafgiaaGreatDoor
