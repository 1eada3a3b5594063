/- impl.Parse at a label: its parts by growing keys. -/
import Derived.Test.YtaloidnoeafgiaaGreatDoorMap2
import Derived.Test.YtaloidnoeafgiaaGreatDoorLabS
import Derived.Test.YtaloidnoeafgiaaGreatDoorParseS
import Derived.Test.YtaloidnoeafgiaaGreatDoorSortS
import Derived.Deep.LoopGhost
namespace Go.Proofs.YtaloidnoeafgiaaGreatDoor
open Go.RowKit Go.Lib

/-- pairs of texts, cell by cell -/
def prV (l : List (ByteArray × ByteArray)) : List Value := l.flatMap fun p => [.string p.1, .string p.2]
theorem prV_length (l : List (ByteArray × ByteArray)) : (prV l).length = l.length * 2 := by
  induction l with
  | nil => rfl
  | cons a r ih => simp only [prV, List.flatMap_cons, List.length_append, List.length_cons, List.length_nil] at *; omega
theorem prV_snoc (l : List (ByteArray × ByteArray)) (p : ByteArray × ByteArray) : prV (l ++ [p]) = prV l ++ [.string p.1, .string p.2] := by simp [prV]

/-- the parts of a label by growing keys -/
def labPairs (x : Lab) : List (ByteArray × ByteArray) := (if x.l.size = 0 then [] else [(kL, x.l)]) ++ [(kR, x.r), (kT, x.t), (kU, x.u)]

theorem ctx_keys (x : Lab) : (ctxL x.u x.r x.t x.l).map (·.1) = [kU, kR, kT] ++ if x.l.size = 0 then [] else [kL] := by
  unfold ctxL
  split <;> simp

theorem ctx_len (x : Lab) : 3 ≤ (ctxL x.u x.r x.t x.l).length ∧ (ctxL x.u x.r x.t x.l).length ≤ 4 := by
  unfold ctxL
  split <;> simp

theorem info48 : (Tryz.prog.info? 48).map (fun i => (i.zero, i.size, i.bytes)) = some (some (.agg #[.string ⟨#[]⟩, .string ⟨#[]⟩]), 2, 32) := by kernel_rfl

theorem cell_two_new (w : World) (x y : Value) (t : TypeId) : ∀ j u, [x, y][j]? = some u → (w.alloc (.cells #[x, y] t)).cell? ((⟨w.heap.size, 0, none⟩ : Addr).add j) = some u := by
  intro j u hj
  have h := heap_alloc_new w (.cells [x, y].toArray t)
  match j, hj with
  | 0, hj => simp at hj; subst hj; exact row_cell (l := [x, y]) h (j := 0) rfl
  | 1, hj => simp at hj; subst hj; exact row_cell (l := [x, y]) h (j := 1) rfl

theorem two_str (x y : ByteArray) : ∀ u ∈ [Value.string x, Value.string y], u.oneCell' = true := by
  intro u hu
  simp at hu
  rcases hu with rfl | rfl <;> rfl

theorem owns_shape2 {w : World} {B e sz : Nat} {v : Value} {n : Nat} {xs : List Value} (h : w.ownsRow B e sz v n xs) : ∃ ao cap, v = .slice ao n cap := by
  rcases h.2 with ⟨rfl, rfl⟩ | ⟨g, cap, cur, rfl, _⟩
  · exact ⟨none, 0, rfl⟩
  · exact ⟨some ⟨g, 0, none⟩, cap, rfl⟩

theorem own_block_ge2 {w : World} {B e sz n c : Nat} {ao : Option Addr} {xs : List Value} (h : w.ownsRow B e sz (.slice ao n c) n xs) : ∀ k, (Value.slice ao n c).ownBlock = some k → B ≤ k := by
  intro k hk
  rcases h.2 with ⟨he, _⟩ | ⟨g, cap, cur, he, hg, _⟩
  · simp only [Value.slice.injEq] at he; obtain ⟨rfl, _⟩ := he; simp [Value.ownBlock] at hk
  · simp only [Value.slice.injEq] at he; obtain ⟨rfl, _⟩ := he
    simp [Value.ownBlock] at hk; omega

theorem keys_growing (x : Lab) : Growing ((labPairs x).map (·.1)) := by
  unfold labPairs
  split
  · show Growing [kR, kT, kU]
    unfold Growing bs; decide
  · show Growing [kL, kR, kT, kU]
    unfold Growing bs; decide

theorem keys_perm (x : Lab) : ((labPairs x).map (·.1)).Perm ((ctxL x.u x.r x.t x.l).map (·.1)) := by
  rw [ctx_keys]
  unfold labPairs
  split
  · show [kR, kT, kU].Perm [kU, kR, kT]
    decide
  · show [kL, kR, kT, kU].Perm [kU, kR, kT, kL]
    decide

theorem lk_pairs (x : Lab) (i : Nat) (hi : i < (labPairs x).length) : lk (ctxL x.u x.r x.t x.l) ((labPairs x).getD i (kU, kU)).1 = some (.string ((labPairs x).getD i (kU, kU)).2) := by
  unfold labPairs ctxL at *
  split at hi
  · rename_i h
    rw [if_pos h, if_pos h]
    match i, hi with
    | 0, _ => simp [lk, List.getD]
    | 1, _ => simp [lk, List.getD]
    | 2, _ => simp [lk, List.getD]
  · rename_i h
    rw [if_neg h, if_neg h]
    match i, hi with
    | 0, _ => simp [lk, List.getD]
    | 1, _ => simp [lk, List.getD]
    | 2, _ => simp [lk, List.getD]
    | 3, _ => simp [lk, List.getD]

theorem grown_row {wr w6 : World} {o ob : Obj} {b : Nat} {row : Option Nat} (h : wr.heap[b]? = some ob) (hg : (wr.alloc o).grownBy w6 row) (hr : ∀ k, row = some k → b < k) : w6.heap[b]? = some ob := by
  have hlt := (Array.getElem?_eq_some_iff.1 h).1
  refine (hg.block b (by simp; omega) (fun e => Nat.lt_irrefl _ (hr b e.symm))).trans ?_
  rw [Below.heap_alloc _ _ _ hlt]; exact h

theorem prV_take (l : List (ByteArray × ByteArray)) (i : Nat) (h : i < l.length) (k v : ByteArray) (hk : (k, v) = l.getD i (kU, kU)) : prV (l.take (i + 1)) = prV (l.take i) ++ [.string k, .string v] := by
  rw [List.take_succ_eq_append_getElem h, prV_snoc]
  have e : l.getD i (kU, kU) = l[i] := by simp [List.getD, List.getElem?_eq_getElem h]
  rw [← e, ← hk]

theorem own_lower2 {w : World} {B B' e sz n : Nat} {v : Value} {xs : List Value} (h : w.ownsRow B e sz v n xs) (hB : B' ≤ B) : w.ownsRow B' e sz v n xs := by
  refine ⟨h.1, ?_⟩
  rcases h.2 with h' | ⟨g, cap, cur, h1, h2, h3⟩
  · exact Or.inl h'
  · exact Or.inr ⟨g, cap, cur, h1, by omega, h3⟩

theorem own_grown {w w' : World} {B e n sz : Nat} {v : Value} {xs : List Value} {row : Option Nat} (h : w.ownsRow B e sz v n xs) (hg : w.grownBy w' row) (hr : ∀ k, row = some k → k < B) : w'.ownsRow B e sz v n xs := by
  refine ⟨h.1, ?_⟩
  rcases h.2 with h' | ⟨g, cap, cur, h1, h2, h3, h4⟩
  · exact Or.inl h'
  · exact Or.inr ⟨g, cap, cur, h1, h2, (hg.block g (Array.getElem?_eq_some_iff.1 h3).1 (fun e => by have := hr g e.symm; omega)).trans h3, h4⟩

set_option maxRecDepth 100000 in
set_option maxHeartbeats 8000000 in
theorem parse_label (s : ByteArray) (x : Lab) (hx : x.Ok) (hs : s.data.toList = x.text) (w : World) :
    Calls Tryz.prog 15 #[.string s] w fun e w' => ∃ v : Value, e = .returned (.tuple #[v, .bool true]) ∧ w'.ownsRow w.heap.size 48 2 v (labPairs x).length (prV (labPairs x)) ∧ Below w.heap.size w w' := by
  have hsz := labT_size hx.small hs
  have Hr := Lib.hid (newContext_any s x.u x.r x.t x.l hs hx.u hx.r hx.t (by omega))
  have Hb0 : Hid (Below w.heap.size w ((w.alloc (.cells #[.slice none 0 0] 40)).alloc (.cells #[.bool false] 4))) := ((Below.refl _ _).alloc (Nat.le_refl _) _).alloc (by simp) _
  have hmf : ∀ (fn : Fn) (first cap : Array Value) (w : World), (Instr.makeFunc fn first cap).run Tryz.prog w = .ok (.func fn first cap) w := fun _ _ _ _ => rfl
  obtain ⟨l, hl⟩ : ∃ l, l = ctxL x.u x.r x.t x.l := ⟨_, rfl⟩
  have HL : Hid (l = ctxL x.u x.r x.t x.l) := hl
  have hln : 3 ≤ l.length ∧ l.length ≤ 4 := by rw [hl]; exact ctx_len x
  obtain ⟨i0, hi, hz0, hz1, hz2⟩ := info_parts info9
  rw [← hl] at Hr
  clear hs hsz hl
  go_enter_defers Tryz.func15, Tryz.ntmps15
  go_wp2_with (go_at_call 34; go_in)
  refine (Hr.out _).mono ?_
  rintro e w2 ⟨rfl, hm, hb2⟩
  have q0 : w2.heap[w.heap.size]? = some (.cells #[.slice none 0 0] 40 (0, 0)) := by
    rw [hb2.block w.heap.size (by simp; omega), Below.heap_alloc _ _ _ (by simp)]; exact heap_alloc_new _ _
  have q1 : w2.heap[w.heap.size + 1]? = some (.cells #[.bool false] 4 (0, 0)) := by
    rw [hb2.block (w.heap.size + 1) (by simp)]
    have h := heap_alloc_new (w.alloc (.cells #[.slice none 0 0] 40)) (.cells #[.bool false] 4)
    simpa using h
  have Hb2 : Hid (Below w.heap.size w w2) := Hb0.out.trans (hb2.mono (by simp; omega))
  obtain ⟨b, hb⟩ : ∃ b, b = ((w.alloc (.cells #[.slice none 0 0] 40)).alloc (.cells #[.bool false] 4)).heap.size := ⟨_, rfl⟩
  rw [← hb] at hm
  have Hbb : Hid (b = w.heap.size + 1 + 1) := by show _ = _; rw [hb]; simp
  have hb3 : b = w.heap.size + 1 + 1 := Hbb.out
  have Q0 := Lib.hid q0
  have Q1 := Lib.hid q1
  clear q0 q1 hb2 hb Hb0 Hr
  subst hb3
  have hm0 : MapAt w2 (w.heap.size + 1 + 1) l := hm
  have Hm := Lib.hid hm0
  clear hm hm0
  go_wp2_with (at_range; refine wpList_rangeAt _ rfl _ 67 rfl 9 9 Tryz.underlying67 (w.heap.size + 1 + 1) l rfl Hm.out ?_; intro w3 hrg hg3 hs3)
  go_frame
  have Hrg := Lib.hid hrg
  have Hb3 : Hid (Below w.heap.size w w3) := Hb2.out.grown hg3 Hb2.out.size (fun k hk => by cases hk)
  have Q0 : Hid (w3.heap[w.heap.size]? = some (.cells #[.slice none 0 0] 40 (0, 0))) := (hg3.block _ (Array.getElem?_eq_some_iff.1 Q0.out).1 (by simp)).trans Q0.out
  have Q1 : Hid (w3.heap[w.heap.size + 1]? = some (.cells #[.bool false] 4 (0, 0))) := (hg3.block _ (Array.getElem?_eq_some_iff.1 Q1.out).1 (by simp)).trans Q1.out
  have Hlt2 : Hid (w.heap.size + 1 + 1 < w2.heap.size) := Hm.out.lt
  clear hrg hg3 Hm Hb2
  go_loopg [6] (l.length + 1) (fun mc kv wr => ∃ done : List ByteArray, Hid (mc + done.length = l.length + 1) ∧ Hid (RangeAt wr (w.heap.size + 1 + 1) w2.heap.size l done) ∧ Hid (wr.ownsRow (w2.heap.size + 1) 9 1 kv done.length (strsV done)) ∧ Hid (w2.heap.size + 1 ≤ wr.heap.size) ∧ Hid (wr.heap[w.heap.size]? = some (.cells #[.slice none 0 0] 40 (0, 0))) ∧ Hid (wr.heap[w.heap.size + 1]? = some (.cells #[.bool false] 4 (0, 0))) ∧ Hid (Below w.heap.size w wr))
  case atStart => exact ⟨[], (show _ = _ by simp), Hrg, World.ownsRow_nil _ _ _ _, (show _ ≤ _ by omega), Q0, Q1, Hb3⟩
  case round =>
    obtain ⟨done, hmc, hrg, hown, hsz, hq0, hq1, hbel⟩ := hrel
    clear Hrg Q0 Q1 Hb3
    have hown := hown.out
    obtain ⟨ao, cc, rfl⟩ := owns_shape' hown
    go_wp2_with (at_next; refine wpList_nextAt _ rfl _ rfl (w.heap.size + 1 + 1) w2.heap.size l done rfl hrg.out ?_ ?_)
    · intro hperm
      have hdl : done.length = l.length := by simpa using hperm.length_eq
      obtain ⟨g, rfl, hg2⟩ : ∃ g, ao = some ⟨g, 0, none⟩ ∧ w2.heap.size + 1 ≤ g := by
        rcases hown.2 with ⟨_, h0⟩ | ⟨g, cap, cur, he, hbase, _⟩
        · omega
        · simp only [Value.slice.injEq] at he
          exact ⟨g, he.1, hbase⟩
      have Hown := Lib.hid hown
      have Hperm := Lib.hid hperm
      have hsl := hrg.out.map
      have Hm3 := Lib.hid hsl
      have Hdl := Lib.hid hdl
      have hd3 : 3 ≤ done.length := by omega
      have hd4 : done.length ≤ 4 := by omega
      clear hown hperm hrg hsl hdl
      go_wp2_with fail
      refine (sort_strs (w2.heap.size + 1) g cc done wr Hown.out (by omega)).mono ?_
      rintro e w5 ⟨rfl, ts, hpt, hgr, hown5, hg5⟩
      have hts : ts = (labPairs x).map (·.1) := growing_unique (hpt.trans (Hperm.out.trans (by rw [HL.out]; exact (keys_perm x).symm))) hgr (keys_growing x)
      have htl : ts.length = (labPairs x).length := by rw [hts]; simp
      obtain ⟨n, hn⟩ : ∃ n, n = (labPairs x).length := ⟨_, rfl⟩
      have HN : Hid (n = (labPairs x).length) := hn
      have hdl := Hdl.out
      have hdn : done.length = n := by rw [hn, ← htl]; exact hpt.length_eq.symm
      have hn4 : n ≤ 4 := by omega
      have hn0 : 3 ≤ n := by omega
      have hglt : g < wr.heap.size := by
        rcases Hown.out.2 with ⟨hnil, _⟩ | ⟨g', cap, cur, he, _, hb', _⟩
        · cases hnil
        · simp only [Value.slice.injEq, Option.some.injEq, Addr.mk.injEq, and_true, true_and] at he
          obtain ⟨rfl, _⟩ := he
          exact (Array.getElem?_eq_some_iff.1 hb').1
      have Hc5 : Hid (∀ j, j < n → w5.cell? ⟨g, j, none⟩ = some (.string ((labPairs x).getD j (kU, kU)).1)) := by
        intro j hj
        have h1 := hown5
        rw [show done.length = ts.length by omega] at h1
        obtain ⟨_, g', he, _, _, hc⟩ := own_strs h1 (by omega)
        simp only [Option.some.injEq, Addr.mk.injEq, and_true, true_and] at he
        subst he
        rw [hc j (by omega), hts]
        have hj2 : j < (labPairs x).length := by omega
        simp [List.getD, List.getElem?_eq_getElem hj2]
      have Hg5 := Lib.hid hg5
      have hsz5 := hg5.size
      have hneb : w.heap.size ≠ g := by have := Hlt2.out; omega
      have HQ0 : Hid (w5.heap[w.heap.size]? = some (.cells #[.slice none 0 0] 40 (0, 0))) := (hg5.block _ (Array.getElem?_eq_some_iff.1 hq0.out).1 (fun e => by have := Hlt2.out; have := Option.some.inj e; omega)).trans hq0.out
      have HQ1 : Hid (w5.heap[w.heap.size + 1]? = some (.cells #[.bool false] 4 (0, 0))) := (hg5.block _ (Array.getElem?_eq_some_iff.1 hq1.out).1 (fun e => by have := Hlt2.out; have := Option.some.inj e; omega)).trans hq1.out
      have Hm5 : Hid (MapAt w5 (w.heap.size + 1 + 1) l) := Hm3.out.kept (hg5.block _ Hm3.out.lt (fun e => by have := Hlt2.out; have := Option.some.inj e; omega))
      have Hb5 : Hid (Below w.heap.size w w5) := hbel.out.grown hg5 hbel.out.size (fun j hj => by cases hj; have := Hlt2.out; omega)
      have hl5 : Hid (w.heap.size + 1 + 1 < w5.heap.size) := Hm5.out.lt
      obtain ⟨p0, hpi, hpz0, hpz1, hpz2⟩ := info_parts info48
      have HLk : Hid (∀ j, j < n → lk l ((labPairs x).getD j (kU, kU)).1 = some (.string ((labPairs x).getD j (kU, kU)).2)) := by
        intro j hj
        rw [HL.out]; exact lk_pairs x j (by omega)
      rw [hdn]
      clear hown5 hg5 hpt hgr hts htl hn hdl hdn Hown Hperm Hm3 hq0 hq1 hbel hsz hmc
      go_wp2_with fail
      go_loopg [32] n (fun mc iv wr => ∃ (i : Nat) (v : Value), iv = .int .i64 i ∧ Hid (mc + i = n) ∧ i ≤ n ∧ Hid (wr.heap[w.heap.size]? = some (.cells #[v] 40 (0, 0))) ∧ Hid (wr.ownsRow w5.heap.size 48 2 v i (prV ((labPairs x).take i))) ∧ Hid (∀ j, j < w5.heap.size → j ≠ w.heap.size → wr.heap[j]? = w5.heap[j]?) ∧ Hid (w5.heap.size ≤ wr.heap.size) ∧ Hid (Below w.heap.size w wr))
      case atStart => exact ⟨0, _, rfl, rfl, Nat.zero_le _, HQ0, World.ownsRow_nil _ _ _ _, fun _ _ _ => rfl, Nat.le_refl _, Hb5⟩
      case round =>
        obtain ⟨i, v, rfl, hmc, hin, hrow, hown, hkeep, hsz, hbel⟩ := hrel
        obtain ⟨ao2, cc2, rfl⟩ := owns_shape2 hown.out
        have c0 := row_cell (l := [.slice ao2 i cc2]) hrow.out (j := 0) rfl
        by_cases hi' : i < n
        · have hlt : decide ((i : Int) < (n : Int)) = true := decide_eq_true (by omega)
          have i0' : (0 : Int) ≤ (i : Int) := by omega
          have i1 : (i : Int) < (n : Int) := by omega
          have ci := (show wr.cell? ⟨g, i, none⟩ = w5.cell? ⟨g, i, none⟩ from World.cell?_of_block (w := w5) (hkeep.out g (by omega) (fun e => hneb e.symm))).trans (Hc5.out i hi')
          have hm := Hm5.out.kept (hkeep.out (w.heap.size + 1 + 1) hl5.out (by omega))
          obtain ⟨⟨k, val⟩, ho⟩ : ∃ o, o = (labPairs x).getD i (kU, kU) := ⟨_, rfl⟩
          have HO : Hid ((k, val) = (labPairs x).getD i (kU, kU)) := ho
          have hlk := HLk.out i hi'
          rw [← ho] at ci hlk
          simp only at ci hlk
          have e1 := hm.look Tryz.underlying67 Tryz.underlying9 (zero_str wr) k false
          rw [hlk] at e1
          simp only [Bool.false_eq_true, if_false, Option.getD_some] at e1
          have HO2 := hown.out
          have hsz' := hsz.out
          clear ho hlk hm
          go_wp2_with (at_builtin; refine wpList_append_own _ rfl (.tmp 36) (.tmp 42) 40 rfl w5.heap.size 48 p0 (.agg #[.string ⟨#[]⟩, .string ⟨#[]⟩]) 2 32 Tryz.underlying40 hpi hpz0 hpz1 hpz2 rfl (by decide) _ _ _ rfl (HO2.alloc _) ⟨wr.heap.size, 0, none⟩ 1 1 [.string k, .string val] rfl rfl (cell_two_new _ _ _ _) (two_str _ _) (by unfold maxLen; omega) (by omega) (by simp; omega) ?_; intro v' w6 hown6 hgrow6 _; obtain ⟨ao6, cc6, rfl⟩ := owns_shape2 hown6; have r6 := grown_row hrow.out hgrow6 (fun k hk => by have := own_block_ge2 HO2 k hk; have := hl5.out; omega); have c6 := row_cell (l := [.slice ao2 i cc2]) r6 (j := 0) rfl; have f6 := row_free (l := [.slice ao2 i cc2]) r6 0)
          go_roundg (gk - 1)
          case measure => have := hmc.out; omega
          case rel =>
            have e1 := hmc.out
            have hge := own_block_ge2 HO2
            have hs6 := Nat.le_trans ((Below.refl 0 wr).alloc (Nat.zero_le _) (.cells #[.string k, .string val] 48)).size hgrow6.size
            refine ⟨i + 1, .slice ao6 (i + 1) cc6, by go_num, show _ = _ by omega, by omega, ?_, ?_, ?_, ?_, ?_⟩
            · show _ = _
              rw [heap_setCell_same _ _ _ _ _ _ r6]; rfl
            · refine ownsRow_setCell_below ?_ (by show w.heap.size < _; have := hl5.out; omega) _
              rw [prV_take _ i (by have := HN.out; omega) k val HO.out]
              exact hown6
            · intro j hj hjw
              rw [Below.heap_setCell _ _ _ _ hjw]
              refine (hgrow6.block j (by simp; omega) (fun e => by have := hge j e.symm; omega)).trans ?_
              rw [Below.heap_alloc _ _ _ (by omega)]
              exact hkeep.out j hj hjw
            · show _ ≤ _
              simp only [World.setCell, Array.size_modify]
              omega
            · refine (((hbel.out.alloc hbel.out.size _).grown hgrow6 (Nat.le_trans hbel.out.size ((Below.refl 0 wr).alloc (Nat.zero_le _) _).size) (fun j hj => by have := hge j hj; have := hl5.out; omega))).setCell (Nat.le_refl _) _
        · obtain rfl : i = n := by omega
          have hlt : decide ((i : Int) < (i : Int)) = false := by simp
          have Hown : Hid (wr.ownsRow w5.heap.size 48 2 (.slice ao2 i cc2) (labPairs x).length (prV (labPairs x))) := by
            have h := hown.out
            rw [List.take_of_length_le (by have := HN.out; omega)] at h
            rw [← HN.out]; exact h
          have f0 := row_free (l := [.slice ao2 i cc2]) hrow.out 0
          have hq1' := (hkeep.out (w.heap.size + 1) (by have := hl5.out; omega) (by omega)).trans HQ1.out
          have c1 := row_cell (l := [.bool false]) hq1' (j := 0) rfl
          have f1 := row_free (l := [.bool false]) hq1' 0
          have hl5' := hl5.out
          clear hq1' hown
          go_wp2_with fail
          refine leaves_cons (f := 33) (args := #[.pointer (some ⟨w.heap.size, 0, none⟩), .pointer (some ⟨w.heap.size + 1, 0, none⟩)]) (by simp) (by simp [go_sem]) ?_
          refine (parseGuard_idle ⟨w.heap.size, 0, none⟩ ⟨w.heap.size + 1, 0, none⟩ _).mono ?_
          rintro e u' w'' ⟨rfl, rfl, rfl⟩
          simp [Leaves, settle, results, Tryz.results15, go_sem, c0, c1, f0, f1]
          exact ⟨own_lower2 (ownsRow_setCell_below (ownsRow_setCell_below Hown.out (by show w.heap.size < _; omega) _) (by show w.heap.size + 1 < _; omega) _) (by omega), (hbel.out.setCell (Nat.le_refl _) _).setCell (Nat.le_succ _) _⟩
    · intro k v w4 hnk hkl hlt4 hrg4 hg4 hs4 hen
      have hown := own_grown hown hg4 (fun j hj => by cases hj; exact Nat.lt_succ_self _)
      have Hrg4 := Lib.hid hrg4
      have HQ0 : Hid (w4.heap[w.heap.size]? = some (.cells #[.slice none 0 0] 40 (0, 0))) := (hg4.block _ (Array.getElem?_eq_some_iff.1 hq0.out).1 (fun e => by have := Hlt2.out; have := Option.some.inj e; omega)).trans hq0.out
      have HQ1 : Hid (w4.heap[w.heap.size + 1]? = some (.cells #[.bool false] 4 (0, 0))) := (hg4.block _ (Array.getElem?_eq_some_iff.1 hq1.out).1 (fun e => by have := Hlt2.out; have := Option.some.inj e; omega)).trans hq1.out
      have Hbel : Hid (Below w.heap.size w w4) := hbel.out.grown hg4 hbel.out.size (fun j hj => by cases hj; have := Hlt2.out; omega)
      have Hsz4 : Hid (w2.heap.size + 1 ≤ w4.heap.size) := by have := hsz.out; show _ ≤ _; omega
      have hd4 : done.length < 4 := by omega
      have hsz4 := Hsz4.out
      clear hrg4 hg4 hrg hq0 hq1 hbel hsz hkl hnk hs4
      go_wp2_with (at_builtin; refine wpList_append_own _ rfl (.tmp 24) (.tmp 26) 49 rfl (w2.heap.size + 1) 9 i0 (.string ⟨#[]⟩) 1 16 Tryz.underlying49 hi hz0 hz1 hz2 rfl (by decide) _ _ _ rfl (hown.alloc _) ⟨w4.heap.size, 0, none⟩ 1 1 [.string k] rfl rfl (cell_one_new _ _ _) (one_str _) (by unfold maxLen; omega) (by omega) (by simp; omega) ?_; intro v' w5 hown2 hgrow2 _)
      go_roundg (gk - 1)
      case measure => have := hmc.out; omega
      case rel =>
        have e1 := hmc.out
        have hge := own_block_ge hown
        have ha : ∀ j, j < w2.heap.size + 1 → j < w4.heap.size → w5.heap[j]? = w4.heap[j]? := by
          intro j hj hj2
          refine (hgrow2.block j (by simp; omega) (fun e => by have := hge j e.symm; omega)).trans (Below.heap_alloc _ _ _ hj2)
        refine ⟨done ++ [k], (show _ = _ by rw [List.length_append, List.length_singleton]; omega), Hrg4.out.kept (ha _ (by have := Hlt2.out; omega) (by have := Hlt2.out; omega)) (ha _ (by omega) (by omega)), ?_, ?_, (ha _ (by have := Hlt2.out; omega) (by have := Hlt2.out; omega)).trans HQ0.out, (ha _ (by have := Hlt2.out; omega) (by have := Hlt2.out; omega)).trans HQ1.out, ?_⟩
        · have e : strsV (done ++ [k]) = strsV done ++ [.string k] := by simp [strsV]
          show World.ownsRow _ _ _ _ _ _ _
          rw [e, List.length_append]
          exact hown2
        · exact Nat.le_trans Hsz4.out (Nat.le_trans ((Below.refl 0 w4).alloc (Nat.zero_le _) _).size hgrow2.size)
        · exact (Hbel.out.alloc Hbel.out.size _).grown hgrow2 (Nat.le_trans Hbel.out.size ((Below.refl 0 w4).alloc (Nat.zero_le _) _).size) (fun j hj => by have := hge j hj; have := Hlt2.out; omega)
end Go.Proofs.YtaloidnoeafgiaaGreatDoor
