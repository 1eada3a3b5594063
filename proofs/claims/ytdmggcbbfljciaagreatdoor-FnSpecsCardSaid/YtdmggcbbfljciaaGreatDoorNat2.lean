/- math/big's (nat).setBit with b = 1, at a slice that the call owns: its words are those of 'setw'. -/
import Derived.Test.YtdmggcbbfljciaaGreatDoorNat1
import Derived.Test.YtdmggcbbfljciaaGreatDoorCl3
import Derived.Laws.CopyOwn
import Derived.Laws.BitsLemmas
import Derived.Laws.Bits64
import Derived.Laws.Bits64b
import Derived.Outline
namespace Go.Proofs.YtdmggcbbfljciaaGreatDoor
open Go.RowKit

def words (ws : List Nat) : List Value := ws.map fun x : Nat => Value.int .u64 (x : Int)
theorem words_length (ws : List Nat) : (words ws).length = ws.length := by simp [words]
theorem words_at (ws : List Nat) (j : Nat) (h : j < ws.length) : (words ws)[j]? = some (.int .u64 (ws.getD j 0 : Nat)) := by
  simp [words, List.getD, List.getElem?_eq_getElem h]

/-- 'clear(s)' at a row that is known whole. -/
theorem wpList_clear_splice {P : Program} {w : World} {ops : Array Oper} {rest : List Oper} {o : Oper} {a : Act} {Q : Exit → Act → World → Prop} (hgd : o.guard = none) (s : Operand) (sT : TypeId)
    (ho : o.op = .call { callee := .builtin .clear, args := #[s], argTypes := #[sT] }) (elem : TypeId) (hu : P.underlying sT = some (.slice elem)) (z : Value) (hz : ∀ w, (zeroValue elem).run P w = .ok z w) (hzc : z.cells = #[z]) (h1 : z.oneCell' = true)
    (g off n cap : Nat) (hs : a.eval s = .slice (some ⟨g, off, none⟩) n cap) (cur : List Value) (t : TypeId) (hg : w.heap[g]? = some (.cells cur.toArray t (0, 0))) (hfit : off + n ≤ cur.length) (hn : 0 < n)
    (B : Nat) (w0 : World) (hb : Below B w0 w) (hBg : B ≤ g)
    (h : ∀ w', Hid (w'.heap[g]? = some (.cells (splice cur off (List.replicate n z)).toArray t (0, 0))) → Below B w0 w' → Hid (∀ k, k ≠ g → w'.heap[k]? = w.heap[k]?) → wpList P ops Q rest (a.put o.dst (.tuple #[])) w') :
    wpList P ops Q (o :: rest) a w := by
  refine wpList_plain hgd fun K hK => ?_
  have hzr : (Builtin.zeroCells z.cells n).toList = List.replicate n z := by
    rw [hzc]
    simp [Builtin.zeroCells]
    apply List.ext_getElem
    · simp
    · intro i h1 h2
      simp [Nat.mod_one]
  have hst := run_storeCells_at P g off t (List.replicate n z) 0 cur.toArray w hg (by simpa using hfit) (by intro v hv; rw [List.eq_of_mem_replicate hv]; exact h1)
  have hrun : (Builtin.clear_ #[sT] o.type #[.slice (some ⟨g, off, none⟩) n cap]).run P w = .ok (.tuple #[]) (w.setRow g (splice cur off (List.replicate n z)).toArray) := by
    obtain ⟨m, rfl⟩ : ∃ m, n = m + 1 := ⟨n - 1, by omega⟩
    simp [Builtin.clear_, run_underlying hu, hz, hzr, hst, splice]
  unfold Oper.wp
  simp [execOp, ho, resolve, invoke, builtin, hs, hrun, Result.andThen]
  refine hK _ _ (h _ ?_ (below_setRow hb hBg _) ?_)
  · exact setRow_heap w g _ _ t _ hg
  · exact fun k hk => setRow_other w g k _ (fun e => hk e)

theorem zero207 (w : World) : (zeroValue 207).run Tryz.prog w = .ok (.int .u64 0) w := by kernel_rfl
theorem size207 : (Tryz.prog.info? 207).map (·.size) = some 1 := by kernel_rfl

/-- What make hands back where the slice has to be longer than it was. -/
theorem make_grow (B : Nat) (v : Value) (xs : List Value) (n k : Nat) (K : Int) (hK : K = (k : Int)) (w : World) (hB : B ≤ w.heap.size) (h : w.ownsRow B 207 1 v n xs) (hk : n < k) (hk1 : k ≤ 100000) :
    Calls Tryz.prog 156 #[v, .int .i64 K] w fun e w' => ∃ g cap cur, e = .returned (.slice (some ⟨g, 0, none⟩) k cap) ∧ Hid (w'.heap[g]? = some (.cells (List.toArray cur) 207 (0, 0))) ∧ cur.length = cap ∧ k ≤ cap ∧ cap ≤ maxLen ∧ B ≤ g ∧ Below B w w' ∧ w'.ownsRow B 207 1 v n xs := by
  subst hK
  rcases h with ⟨hl, h⟩
  rcases h with ⟨rfl, rfl⟩ | ⟨g, cap, cur, rfl, hg, hh, hn, hc, hs, ht⟩
  · obtain rfl : xs = [] := List.eq_nil_of_length_eq_zero (by simpa using hl)
    by_cases h1 : k = 1
    · subst h1
      refine (make_one none w).mono ?_
      rintro e w' ⟨rfl, rfl⟩
      refine ⟨w.heap.size, 1, [.int .u64 0], rfl, ?_, rfl, by omega, by decide, hB, (Below.refl _ _).alloc hB _, ⟨rfl, .inl ⟨rfl, rfl⟩⟩⟩
      exact heap_alloc_new _ _
    · refine (make_more none 0 0 k w (by omega) (by omega) (by omega)).mono ?_
      rintro e w' ⟨rfl, rfl⟩
      refine ⟨w.heap.size, k + 4, (madeCells #[.int .u64 0] (k + 4)).toList, rfl, ?_, by simp [size_madeCells], by omega, by unfold maxLen; omega, hB, (Below.refl _ _).alloc hB _, ⟨rfl, .inl ⟨rfl, rfl⟩⟩⟩
      exact heap_alloc_new _ _
  · have hown : w.ownsRow B 207 1 (.slice (some ⟨g, 0, none⟩) n cap) n xs := ⟨hl, .inr ⟨g, cap, cur, rfl, hg, hh, hn, hc, hs, ht⟩⟩
    by_cases h1 : k ≤ cap
    · refine (make_reuse (some ⟨g, 0, none⟩) n cap k w h1 (by unfold maxLen at hc; omega)).mono ?_
      rintro e w' ⟨rfl, rfl⟩
      exact ⟨g, cap, cur.toList, rfl, hh, by simpa using hs, h1, hc, hg, Below.refl _ _, hown⟩
    · by_cases h2 : k = 1
      · obtain rfl : cap = 0 := by omega
        obtain rfl : n = 0 := by omega
        subst h2
        refine (make_one (some ⟨g, 0, none⟩) w).mono ?_
        rintro e w' ⟨rfl, rfl⟩
        refine ⟨w.heap.size, 1, [.int .u64 0], rfl, ?_, rfl, by omega, by decide, hB, (Below.refl _ _).alloc hB _, hown.alloc _⟩
        exact heap_alloc_new _ _
      · refine (make_more (some ⟨g, 0, none⟩) n cap k w (by omega) (by omega) (by omega)).mono ?_
        rintro e w' ⟨rfl, rfl⟩
        refine ⟨w.heap.size, k + 4, (madeCells #[.int .u64 0] (k + 4)).toList, rfl, ?_, by simp [size_madeCells], by omega, by unfold maxLen; omega, hB, (Below.refl _ _).alloc hB _, hown.alloc _⟩
        exact heap_alloc_new _ _

theorem owns_shape {w : World} {B e : Nat} {v : Value} {n : Nat} {xs : List Value} (h : w.ownsRow B e 1 v n xs) : ∃ ao cap, v = .slice ao n cap := by
  rcases h.2 with ⟨rfl, rfl⟩ | ⟨g, cap, cur, rfl, _⟩
  · exact ⟨none, 0, rfl⟩
  · exact ⟨some ⟨g, 0, none⟩, cap, rfl⟩

theorem row_cell {w : World} {g e : Nat} {l : List Value} (h : w.heap[g]? = some (.cells l.toArray e (0, 0))) {j : Nat} {v : Value} (hj : l[j]? = some v) : w.cell? ⟨g, j, none⟩ = some v := by
  simp [World.cell?, h, hj]
theorem row_free {w : World} {g e : Nat} {l : List Value} (h : w.heap[g]? = some (.cells l.toArray e (0, 0))) (j : Nat) : w.frozen? ⟨g, j, none⟩ = false := by
  simp [World.frozen?, h]

theorem splice_at {α : Type} (L : List α) (off : Nat) (cs : List α) (h : off + cs.length ≤ L.length) (j : Nat) : (splice L off cs)[j]? = if j < off then L[j]? else if j < off + cs.length then cs[j - off]? else L[j]? := by
  unfold splice
  by_cases h1 : j < off
  · rw [if_pos h1, List.getElem?_append_left (by simp; omega), List.getElem?_take, if_pos h1]
  · rw [if_neg h1, List.getElem?_append_right (by simp; omega)]
    have e : (List.take off L).length = off := by simp; omega
    rw [e]
    by_cases h2 : j < off + cs.length
    · rw [if_pos h2, List.getElem?_append_left (by omega)]
    · rw [if_neg h2, List.getElem?_append_right (by omega), List.getElem?_drop]
      congr 1; omega

/-- what is copied lies where it lay, though what stands behind it was cleared -/
theorem copy_src {w1 w2 : World} {B e g n c0 : Nat} {ao : Option Addr} {xs zs cur : List Value} (hown : w1.ownsRow B e 1 (.slice ao n c0) n xs) (hg1 : w1.heap[g]? = some (.cells cur.toArray e (0, 0)))
    (hg2 : w2.heap[g]? = some (.cells (splice cur n zs).toArray e (0, 0))) (hl : n + zs.length ≤ cur.length) (hoth : ∀ k, k ≠ g → w2.heap[k]? = w1.heap[k]?) :
    0 < xs.length → ∃ ad, ao = some ad ∧ ∀ j v, xs[j]? = some v → w2.cell? (ad.add j) = some v := by
  intro h0
  obtain ⟨hxl, h⟩ := hown
  rcases h with ⟨_, rfl⟩ | ⟨g0, cap, cu, he, _, hh, hn, _, hs, ht⟩
  · simp at hxl; subst hxl; simp at h0
  · simp only [Value.slice.injEq] at he
    obtain ⟨rfl, _, _⟩ := he
    refine ⟨_, rfl, fun j v hj => ?_⟩
    have hjl : j < n := by
      have := (List.getElem?_eq_some_iff.1 hj).1
      simp at hxl; omega
    have hcu : cu.toList[j]? = some v := by
      rw [← ht, Nat.mul_one] at hj
      rw [List.getElem?_take, if_pos hjl] at hj
      exact hj
    have hadd : (⟨g0, 0, none⟩ : Addr).add j = ⟨g0, j, none⟩ := by unfold Addr.add; split <;> simp_all
    rw [hadd]
    by_cases hgg : g0 = g
    · subst hgg
      rw [hh] at hg1
      simp only [Option.some.injEq, Obj.cells.injEq, and_true] at hg1
      refine row_cell hg2 ?_
      rw [splice_at _ _ _ hl, if_pos hjl]
      rw [hg1] at hcu
      simpa using hcu
    · refine row_cell (l := cu.toList) (e := e) ?_ hcu
      rw [hoth g0 hgg]
      simpa using hh

theorem set_words (ws : List Nat) (i : Nat) (h : ws.length ≤ i / 64) :
    (words ws ++ List.replicate (i / 64 + 1 - ws.length) (Value.int .u64 0)).set (i / 64) (.int .u64 ((2 ^ (i % 64) : Nat) : Int)) = words (CL.setw ws i) := by
  unfold CL.setw
  rw [if_neg (by omega)]
  have e : i / 64 + 1 - ws.length = (i / 64 - ws.length) + 1 := by omega
  have e2 : (words ws ++ List.replicate (i / 64 - ws.length) (Value.int .u64 0)).length = i / 64 := by rw [List.length_append, words_length, List.length_replicate]; omega
  rw [e, List.replicate_succ', ← List.append_assoc, List.set_append_right _ _ (by omega), e2, Nat.sub_self]
  simp [words]

theorem bit_u64 (k : Nat) : IntKind.u64.wrap (2 ^ (k % 64)) = ((2 ^ (k % 64) : Nat) : Int) := by
  rw [IntKind.wrap_u64]
  have := CL.pow_lt k
  have e : ((2 : Int) ^ (k % 64)) = ((2 ^ (k % 64) : Nat) : Int) := by push_cast; rfl
  rw [e]
  generalize 2 ^ (k % 64) = m at this
  omega

theorem grow_end (B g cap : Nat) (ws : List Nat) (i : Nat) (cur X Z : List Value) (w3 : World) (hBg : B ≤ g) (hcm : cap ≤ maxLen) (hkc : i / 64 + 1 ≤ cap) (hcl : cur.length = cap) (hn : ws.length ≤ i / 64) (hX : X = words ws)
    (hZ : Z = List.replicate (i / 64 + 1 - ws.length) (Value.int .u64 0)) (hg3 : w3.heap[g]? = some (.cells (splice (splice cur ws.length Z) 0 X).toArray 207 (0, 0))) :
    (w3.setCell ⟨g, i / 64, none⟩ (.int .u64 (bits .or .u64 0 (IntKind.u64.wrap (2 ^ (i % 64)))))).ownsRow B 207 1 (.slice (some ⟨g, 0, none⟩) (i / 64 + 1) cap) (CL.setw ws i).length (words (CL.setw ws i)) := by
  have hXl : X.length = ws.length := by rw [hX, words_length]
  have hZl : Z.length = i / 64 + 1 - ws.length := by rw [hZ, List.length_replicate]
  have hl1 := length_splice cur ws.length Z (by omega)
  have hl2 := length_splice (splice cur ws.length Z) 0 X (by omega)
  have ht : (splice (splice cur ws.length Z) 0 X).take (i / 64 + 1) = X ++ Z := by
    apply List.ext_getElem?
    intro j
    rw [List.getElem?_take]
    by_cases h1 : j < i / 64 + 1
    · rw [if_pos h1, splice_at _ 0 X (by omega), if_neg (by omega), splice_at _ _ Z (by omega)]
      by_cases h2 : j < ws.length
      · rw [if_pos (by omega), List.getElem?_append_left (by omega)]; rfl
      · rw [if_neg (by omega), if_neg h2, if_pos (by omega), List.getElem?_append_right (by omega), hXl]
    · rw [if_neg h1, List.getElem?_eq_none (by rw [List.length_append]; omega)]
  have hown : w3.ownsRow B 207 1 (.slice (some ⟨g, 0, none⟩) (i / 64 + 1) cap) (i / 64 + 1) (X ++ Z) :=
    ⟨by rw [List.length_append]; omega, .inr ⟨g, cap, _, rfl, hBg, hg3, hkc, hcm, by simp; omega, by simpa using ht⟩⟩
  have hs := (hown.stored (i / 64) (.int .u64 (bits .or .u64 0 (IntKind.u64.wrap (2 ^ (i % 64)))))).1
  have hb : bits .or .u64 0 (IntKind.u64.wrap (2 ^ (i % 64))) = ((2 ^ (i % 64) : Nat) : Int) := by
    rw [bit_u64]
    have := bits_or_u64_nat 0 (2 ^ (i % 64)) (by decide) (CL.pow_lt i)
    simpa using this
  rw [hb, hX, hZ, set_words ws i hn] at hs
  rw [hb]
  have hlen : (CL.setw ws i).length = i / 64 + 1 := by rw [CL.setw_length]; omega
  rw [hlen]
  exact hs

set_option maxRecDepth 100000 in
set_option maxHeartbeats 1000000 in
/-- the bit lies behind the last word -/
theorem setBit_grow (B : Nat) (ao : Option Addr) (c0 : Nat) (ws : List Nat) (i : Nat) (w : World) (hB : B ≤ w.heap.size) (h : w.ownsRow B 207 1 (.slice ao ws.length c0) ws.length (words ws)) (hi : i < 100000) (hn : ws.length ≤ i / 64) :
    Calls Tryz.prog 153 #[.slice ao ws.length c0, .slice ao ws.length c0, .int .u64 i, .int .u64 1] w fun e w' => ∃ v', e = .returned v' ∧ w'.ownsRow B 207 1 v' (CL.setw ws i).length (words (CL.setw ws i)) ∧ Below B w w' := by
  have i0 : (0 : Int) ≤ i := by omega
  have e64 : (i : Int).toNat / 64 = i / 64 := by omega
  go_enter Tryz.func153, Tryz.ntmps153
  go_wp2_with fail
  refine (make_grow B _ (words ws) ws.length (i / 64 + 1) _ (by omega) w hB h (by omega) (by omega)).mono ?_
  rintro e w1 ⟨g, cap, cur, rfl, hg1, hcl, hkc, hcm, hBg, hbel, hown⟩
  have hk2 : ws.length ≤ i / 64 + 1 := by omega
  have hn2 : ws.length < cap := by omega
  have hcut : ws.length + (i / 64 + 1 - ws.length) ≤ cur.length := by omega
  have hcut0 : 0 < i / 64 + 1 - ws.length := by omega
  obtain ⟨X, hX⟩ : ∃ X, X = words ws := ⟨_, rfl⟩
  have hXl : X.length = ws.length := by rw [hX, words_length]
  rw [← hX] at hown
  have HX : Hid (X = words ws) := hX
  have HXl : Hid (X.length = ws.length) := hXl
  clear hX hXl
  obtain ⟨Z, hZ⟩ : ∃ Z, Z = List.replicate (i / 64 + 1 - ws.length) (Value.int .u64 0) := ⟨_, rfl⟩
  have hZl : Z.length = i / 64 + 1 - ws.length := by rw [hZ, List.length_replicate]
  have HZ : Hid (Z = List.replicate (i / 64 + 1 - ws.length) (Value.int .u64 0)) := hZ
  have HZl : Hid (Z.length = i / 64 + 1 - ws.length) := hZl
  clear hZl
  have hX1 : ∀ v ∈ X, v.oneCell' = true := by
    rw [HX.out]; intro v hv; simp only [words, List.mem_map] at hv; obtain ⟨x, _, rfl⟩ := hv; rfl
  have HX1 : Hid (∀ v ∈ X, v.oneCell' = true) := hX1
  clear hX1
  have Hcl : Hid (cur.length = cap) := hcl
  clear hcl
  have Hn : Hid (X.length = Nat.min ws.length (i / 64 + 1)) := by
    have a1 := HXl.out
    show X.length = _
    rw [a1]; simp [Nat.min_def]; omega
  have Hfit : Hid (0 + X.length ≤ (splice cur ws.length Z).length) := by
    have a1 := HXl.out
    have a2 := HZl.out
    have a3 := Hcl.out
    have a4 := length_splice cur ws.length Z (by omega)
    show 0 + X.length ≤ _
    omega
  have Hfit2 : Hid (ws.length + Z.length ≤ cur.length) := by
    have a2 := HZl.out
    have a3 := Hcl.out
    show ws.length + Z.length ≤ cur.length
    omega
  have hgo : ∀ w2 w3 : World, Hid (w2.heap[g]? = some (.cells (splice cur ws.length Z).toArray 207 (0, 0))) → Hid (w3.heap[g]? = some (.cells (splice (splice cur ws.length Z) 0 X).toArray 207 (0, 0))) → w3.cell? ⟨g, i / 64, none⟩ = some (.int .u64 0) ∧ w3.frozen? ⟨g, i / 64, none⟩ = false := by
    intro w2 w3 _ h3
    refine ⟨row_cell h3.out ?_, row_free h3.out _⟩
    have a1 := HXl.out
    have a2 := HZl.out
    have a3 := Hcl.out
    have a4 := length_splice cur ws.length Z (by omega)
    have a5 := h3.out
    rw [splice_at _ 0 X (by omega), if_neg (by omega), if_neg (by omega), splice_at _ _ Z (by omega), if_neg (by omega), if_pos (by omega), HZ.out, List.getElem?_replicate, if_pos (by omega)]
  go_wp2_with (first | ((with_reducible refine wpList_clear_splice rfl (.tmp 53) 175 rfl 207 Tryz.underlying175 (.int .u64 0) zero207 rfl rfl g ws.length (i / 64 + 1 - ws.length) (cap - ws.length) rfl cur 207 hg1.out hcut hcut0 B w hbel hBg ?_); intro w2 hg2 hbel2 hoth; rw [← HZ.out] at hg2) | ((with_reducible refine wpList_copy_splice rfl (.tmp 57) (.tmp 58) 175 175 rfl 207 Tryz.underlying175 size207 (some ⟨g, 0, none⟩) ao (i / 64 + 1) cap ws.length c0 rfl rfl g 0 (splice cur ws.length Z) 207 hg2.out X Hn.out (fun h0 => ⟨rfl, copy_src hown hg1.out hg2.out Hfit2.out hoth.out h0⟩) Hfit.out HX1.out B w hbel2 hBg ?_); intro w3 hg3 hbel3; obtain ⟨hc3, hf3⟩ := hgo w2 w3 hg2 hg3))
  go_ret
  exact ⟨_, rfl, grow_end B g cap ws i cur X Z w3 hBg hcm hkc Hcl.out hn HX.out HZ.out hg3.out, hbel3.setCell hBg _⟩

theorem or_words (ws : List Nat) (i : Nat) (hw : ∀ x ∈ ws, x < 2 ^ 64) : bits .or .u64 ((ws.getD (i / 64) 0 : Nat) : Int) (IntKind.u64.wrap (2 ^ (i % 64))) = ((ws.getD (i / 64) 0 ||| 2 ^ (i % 64) : Nat) : Int) := by
  rw [bit_u64]
  exact bits_or_u64_nat _ _ (CL.getD_lt hw _) (CL.pow_lt i)

theorem in_words (ws : List Nat) (i x : Nat) (_h : i / 64 < ws.length) : (words ws).set (i / 64) (.int .u64 (x : Int)) = words (ws.set (i / 64) x) := by
  unfold words
  rw [List.map_set]

set_option maxRecDepth 100000 in
set_option maxHeartbeats 1000000 in
/-- the bit lies in a word that is there -/
theorem setBit_in (B g c0 : Nat) (ws : List Nat) (i : Nat) (w : World) (h : w.ownsRow B 207 1 (.slice (some ⟨g, 0, none⟩) ws.length c0) ws.length (words ws)) (hB : B ≤ g) (hn0 : ws.length ≤ c0) (hm : c0 ≤ 9223372036854775807) (hw : ∀ x ∈ ws, x < 2 ^ 64) (hi : i < 100000) (hn : i / 64 < ws.length) :
    Calls Tryz.prog 153 #[.slice (some ⟨g, 0, none⟩) ws.length c0, .slice (some ⟨g, 0, none⟩) ws.length c0, .int .u64 i, .int .u64 1] w fun e w' => ∃ v', e = .returned v' ∧ w'.ownsRow B 207 1 v' (CL.setw ws i).length (words (CL.setw ws i)) ∧ Below B w w' := by
  have i0 : (0 : Int) ≤ i := by omega
  have e64 : (i : Int).toNat / 64 = i / 64 := by omega
  obtain ⟨X, hX⟩ : ∃ X, X = words ws := ⟨_, rfl⟩
  have hXl : X.length = ws.length := by rw [hX, words_length]
  rw [← hX] at h
  have HX : Hid (X = words ws) := hX
  have HXl : Hid (X.length = ws.length) := hXl
  clear hX hXl
  obtain ⟨cur, hg, hcl, htk⟩ : ∃ cur : List Value, Hid (w.heap[g]? = some (.cells cur.toArray 207 (0, 0))) ∧ Hid (cur.length = c0) ∧ Hid (cur.take ws.length = X) := by
    rcases h.2 with ⟨h', _⟩ | ⟨g', cap', cu, h', hb, hh, hnc, hcm, hcs, htake⟩
    · simp at h'
    · simp only [Value.slice.injEq, Option.some.injEq, Addr.mk.injEq, and_true, true_and] at h'
      obtain ⟨rfl, rfl⟩ := h'
      exact ⟨cu.toList, hh, show _ = _ by simpa using hcs, show _ = _ by simpa using htake⟩
  have HX1 : Hid (∀ v ∈ X, v.oneCell' = true) := by
    rw [HX.out]; intro v hv; simp only [words, List.mem_map] at hv; obtain ⟨x, _, rfl⟩ := hv; rfl
  have Hn : Hid (X.length = Nat.min ws.length ws.length) := by
    have a1 := HXl.out
    show X.length = _
    rw [a1]; simp
  have Hfit : Hid (0 + X.length ≤ cur.length) := by
    have a1 := HXl.out
    have a3 := hcl.out
    show 0 + X.length ≤ _
    omega
  have Hsrc : Hid (∀ j v, X[j]? = some v → w.cell? ((⟨g, 0, none⟩ : Addr).add j) = some v) := by
    intro j v hj
    have hadd : (⟨g, 0, none⟩ : Addr).add j = ⟨g, j, none⟩ := by unfold Addr.add; split <;> simp_all
    rw [hadd]
    refine row_cell hg.out ?_
    have hjl : j < ws.length := by have := (List.getElem?_eq_some_iff.1 hj).1; have := HXl.out; omega
    rw [← htk.out, List.getElem?_take, if_pos hjl] at hj
    exact hj
  have hgo : ∀ w3 : World, Hid (w3.heap[g]? = some (.cells (splice cur 0 X).toArray 207 (0, 0))) → w3.cell? ⟨g, i / 64, none⟩ = some (.int .u64 (ws.getD (i / 64) 0 : Nat)) ∧ w3.frozen? ⟨g, i / 64, none⟩ = false := by
    intro w3 h3
    refine ⟨row_cell h3.out ?_, row_free h3.out _⟩
    have a1 := HXl.out
    have a3 := hcl.out
    rw [splice_at _ 0 X (by omega), if_neg (by omega), if_pos (by omega), Nat.sub_zero, HX.out, words_at _ _ hn]
  obtain ⟨x0, hx0⟩ : ∃ x0, x0 = ws.getD (i / 64) 0 := ⟨_, rfl⟩
  rw [← hx0] at hgo
  have HX0 : Hid (x0 = ws.getD (i / 64) 0) := hx0
  have HW : Hid (∀ x ∈ ws, x < 2 ^ 64) := hw
  clear hx0 hw
  have hbel0 := Below.refl B w
  go_enter Tryz.func153, Tryz.ntmps153
  go_wp2_with fail
  refine (make_reuse _ ws.length c0 ws.length _ hn0 hm).mono ?_
  rintro e w1 ⟨rfl, rfl⟩
  go_wp2_with ((with_reducible refine wpList_copy_splice rfl (.tmp 57) (.tmp 58) 175 175 rfl 207 Tryz.underlying175 size207 (some ⟨g, 0, none⟩) (some ⟨g, 0, none⟩) ws.length c0 ws.length c0 rfl rfl g 0 cur 207 hg.out X Hn.out (fun h0 => ⟨rfl, _, rfl, Hsrc.out⟩) Hfit.out HX1.out B _ hbel0 hB ?_); intro w3 hg3 hbel3; obtain ⟨hc3, hf3⟩ := hgo w3 hg3)
  go_ret
  have hown3 : w3.ownsRow B 207 1 (.slice (some ⟨g, 0, none⟩) ws.length c0) ws.length (words ws) := by
    refine ⟨by rw [words_length]; omega, .inr ⟨g, c0, _, rfl, hB, hg3.out, hn0, by unfold maxLen; omega, ?_, ?_⟩⟩
    · have := length_splice cur 0 X Hfit.out
      have := hcl.out
      simp; omega
    · rw [← HX.out]
      apply List.ext_getElem?
      intro j
      have a1 := HXl.out
      rw [Nat.mul_one, List.getElem?_take]
      by_cases h1 : j < ws.length
      · rw [if_pos h1]
        show (splice cur 0 X)[j]? = _
        rw [splice_at _ 0 X Hfit.out, if_neg (by omega), if_pos (by omega)]; rfl
      · rw [if_neg h1, List.getElem?_eq_none (by omega)]
  have hs := (hown3.stored (i / 64) (.int .u64 (bits .or .u64 (x0 : Int) (IntKind.u64.wrap (2 ^ (i % 64)))))).1
  have e1 : CL.setw ws i = ws.set (i / 64) (x0 ||| 2 ^ (i % 64)) := by unfold CL.setw; rw [if_pos hn, HX0.out]
  refine ⟨_, rfl, ?_, hbel3.setCell hB _⟩
  have e2 : bits .or .u64 (x0 : Int) (IntKind.u64.wrap (2 ^ (i % 64))) = ((x0 ||| 2 ^ (i % 64) : Nat) : Int) := by
    rw [HX0.out]; exact or_words ws i HW.out
  rw [e2] at hs ⊢
  rw [e1, ← in_words ws i _ hn, List.length_set]
  exact hs
end Go.Proofs.YtdmggcbbfljciaaGreatDoor
