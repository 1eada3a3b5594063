/- what two levels have in common: pure. -/
import Derived.Test.YtaloidnoeafgiaaGreatDoorLvCats
import Derived.Test.YtaloidnoeafgiaaGreatDoorImplR
namespace Go.Proofs.YtaloidnoeafgiaaGreatDoor
open Go.RowKit Go.Lib

/-- what two levels have in common, with another sensitivity -/
def both (n : Nat) (a c : Lvd) : Lvd := ⟨n, a.has && c.has, fun x => a.P x ∧ c.P x⟩
/-- the numbers of one list that the other has too -/
def comL (l k : List Nat) : List Nat := l.filter fun x => decide (x ∈ k)

theorem comL_gr {l : List Nat} (k : List Nat) (h : CL.Gr l) : CL.Gr (comL l k) := List.Pairwise.filter _ h
theorem comL_mem (l k : List Nat) (x : Nat) : x ∈ comL l k ↔ x ∈ l ∧ x ∈ k := by simp [comL]
theorem comL_len (l k : List Nat) : (comL l k).length ≤ l.length := List.length_filter_le _ _
theorem comL_le {l : List Nat} (k : List Nat) (h : ∀ x ∈ l, x ≤ 9999) : ∀ x ∈ comL l k, x ≤ 9999 := fun x hx => h x ((comL_mem l k x).1 hx).1
theorem comL_self (l : List Nat) : comL l l = l := List.filter_eq_self.2 fun x hx => by simpa using hx
theorem comL_comm {l k : List Nat} (hl : CL.Gr l) (hk : CL.Gr k) : comL l k = comL k l :=
  CL.gr_ext _ _ (comL_gr k hl) (comL_gr l hk) fun x => by rw [comL_mem, comL_mem]; exact And.comm

theorem mem_both (n : Nat) {a c : Lvd} {l k : List Nat} (ha : Mem a l) (hc : Mem c k) : Mem (both n a c) (comL l k) :=
  ⟨comL_gr k ha.1, fun x => by rw [comL_mem]; exact and_congr (ha.2 x) (hc.2 x)⟩

/-- a level with itself is itself -/
theorem lv_both {a : Lvd} {s : Nat} {ns : List Nat} (h : Lv a s ns) : Lv (both s a a) s ns :=
  ⟨rfl, (show (a.has && a.has) = _ by rw [h.has]; simp), h.mem.1, fun x => ⟨fun e => (h.mem.2 x).1 e.1, fun e => ⟨(h.mem.2 x).2 e, (h.mem.2 x).2 e⟩⟩⟩

/-- a level that was read: its sensitivity and categories, whether it has a bitset or not -/
structure LvM (a : Lvd) (s : Nat) (ns : List Nat) : Prop where
  sens : a.sens = s
  mem : Mem a ns
theorem LvM.both {a c : Lvd} {s t n : Nat} {l k : List Nat} (ha : LvM a s l) (hc : LvM c t k) : LvM (both n a c) n (comL l k) := ⟨rfl, mem_both n ha.mem hc.mem⟩

/-- the text of a range is read as its levels -/
theorem out_reads {a c : Lvd} {s s' : Nat} {l k : List Nat} {r : ByteArray} (ha : LvM a s l) (hc : LvM c s' k) (hs : s ≤ 9999) (hs' : s' ≤ 9999) (h9 : ∀ x ∈ l, x ≤ 9999) (h9' : ∀ x ∈ k, x ≤ 9999) (hl : l.length ≤ 500) (hk : k.length ≤ 500) (h : RgOut r a c l k) :
    ∃ a' c', ReadsAs r a' c' ∧ Lv a' s l ∧ Lv c' s' k := by
  obtain ⟨q, hq, hr⟩ := h
  have hok := CL.toksOf_ok l.length l (Nat.le_refl _) h9
  have hok' := CL.toksOf_ok k.length k (Nat.le_refl _) h9'
  have n1 := CL.lvT_len s hs _ hok
  have n2 := CL.lvT_len s' hs' _ hok'
  have m1 := CL.toksOf_len l.length l (Nat.le_refl _)
  have m2 := CL.toksOf_len k.length k (Nat.le_refl _)
  rw [rgT, ha.sens, hc.sens] at hr
  cases q with
  | true =>
    obtain ⟨e1, _, e3⟩ := hq.1 rfl
    obtain rfl : s = s' := by rw [← ha.sens, ← hc.sens]; exact e1
    obtain rfl : l = k := CL.gr_ext _ _ ha.mem.1 hc.mem.1 fun x => by rw [← ha.mem.2 x, ← hc.mem.2 x]; exact e3 x
    have hr : r.data.toList = CL.lvT s (CL.toksOf l) := by simpa using hr
    exact ⟨_, _, fun w => range_one r s _ hok hr hs (by rw [Lib.size_eq, hr]; omega) w, lv_toks s l ha.mem.1, lv_toks s l ha.mem.1⟩
  | false =>
    have hr : r.data.toList = CL.lvT s (CL.toksOf l) ++ 45 :: CL.lvT s' (CL.toksOf k) := by simpa using hr
    exact ⟨_, _, fun w => range_two r s _ s' _ hok hok' hr hs hs' (by rw [Lib.size_eq, hr]; simp; omega) w, lv_toks s l ha.mem.1, lv_toks s' k hc.mem.1⟩

/-- the text is fixed by the data -/
theorem out_eq {a c a' c' : Lvd} {l k : List Nat} {r r' : ByteArray} (h : RgOut r a c l k) (h' : RgOut r' a' c' l k) (e1 : a.sens = a'.sens) (e2 : c.sens = c'.sens) (he : LvSame a c ↔ LvSame a' c') : r = r' := by
  obtain ⟨q, hq, hr⟩ := h
  obtain ⟨q', hq', hr'⟩ := h'
  have e : q = q' := by
    have : q = true ↔ q' = true := by unfold EqIs at hq hq'; rw [hq, hq', he]
    cases q <;> cases q' <;> simp_all
  subst e
  exact bytes_ext (by rw [hr, hr', rgT, rgT, e1, e2])
end Go.Proofs.YtaloidnoeafgiaaGreatDoor
