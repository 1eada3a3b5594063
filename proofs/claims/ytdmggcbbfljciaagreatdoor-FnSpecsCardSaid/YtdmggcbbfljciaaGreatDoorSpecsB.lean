/- lists of specifications as arguments: how they lie in memory; zzFits8; how they come in. -/
import Derived.Test.YtdmggcbbfljciaaGreatDoorPubE
import Derived.Test.YtdmggcbbfljciaaGreatDoorOpenPub
import Derived.Test.YtdmggcbbfljciaaGreatDoorSpecsA
import Derived.Test.YtdmggcbbfljciaaGreatDoorLwSpec
import Derived.Laws.Cover1
namespace Go.Proofs.YtdmggcbbfljciaaGreatDoor
open Go.RowKit Go.Lib

abbrev zP : PubI := ⟨0, 0, ⟨#[]⟩, ⟨#[]⟩, 0, 0⟩

/-- specifications in a row of an argument -/
def PubsAt (w : World) (ao : Option Addr) (qs : List PubI) : Prop :=
  ∀ i, i < qs.length → ∃ x, ao = some x ∧ x.block < w.heap.size ∧ w.cell? (x.add (i * 6)) = some (.int .i64 (qs.getD i zP).a) ∧ w.cell? ⟨(x.add (i * 6)).block, (x.add (i * 6)).off + 1, none⟩ = some (.int .i64 (qs.getD i zP).b) ∧
    w.cell? ⟨(x.add (i * 6)).block, (x.add (i * 6)).off + 2, none⟩ = some (.string (qs.getD i zP).pr) ∧ w.cell? ⟨(x.add (i * 6)).block, (x.add (i * 6)).off + 3, none⟩ = some (.string (qs.getD i zP).ip) ∧
    w.cell? ⟨(x.add (i * 6)).block, (x.add (i * 6)).off + 4, none⟩ = some (.int .i64 (qs.getD i zP).h) ∧ w.cell? ⟨(x.add (i * 6)).block, (x.add (i * 6)).off + 5, none⟩ = some (.int .i64 (qs.getD i zP).g)

theorem add_block' (x : Addr) (n : Nat) : (x.add n).block = x.block := by unfold Addr.add; split <;> rfl

theorem add_plus (x : Addr) (n k : Nat) (hk : k ≠ 0) : (⟨(x.add n).block, (x.add n).off + k, none⟩ : Addr) = x.add (n + k) := by
  unfold Addr.add
  rw [if_neg (by omega : ¬ n + k = 0)]
  split
  · rename_i h; subst h; simp
  · show (⟨x.block, x.off + n + k, none⟩ : Addr) = ⟨x.block, x.off + (n + k), none⟩
    rw [Nat.add_assoc]

theorem PubsAt.below {w w' : World} {ao : Option Addr} {qs : List PubI} (h : PubsAt w ao qs) (hb : Below w.heap.size w w') : PubsAt w' ao qs := by
  intro i hi
  obtain ⟨x, h1, h2, k0, k1, k2, k3, k4, k5⟩ := h i hi
  have hx : ∀ o, w'.cell? ⟨(x.add (i * 6)).block, o, none⟩ = w.cell? ⟨(x.add (i * 6)).block, o, none⟩ := fun o => hb.cell (p := ⟨(x.add (i * 6)).block, o, none⟩) (by show (x.add (i * 6)).block < _; rw [add_block']; exact h2)
  exact ⟨x, h1, Nat.lt_of_lt_of_le h2 hb.size, (hb.cell (by rw [add_block']; exact h2)).trans k0, (hx _).trans k1, (hx _).trans k2, (hx _).trans k3, (hx _).trans k4, (hx _).trans k5⟩

/-- an answer on whether all specifications fit -/
def FitsQ (e : Ending) (qs : List PubI) : Prop := ∃ b : Bool, e = .returned (.bool b) ∧ (b = true → ∀ j, j < qs.length → (qs.getD j zP).pr.size ≤ 2147483647 ∧ (qs.getD j zP).ip.size ≤ 2147483647)
theorem FitsQ.no {qs : List PubI} : FitsQ (.returned (.bool false)) qs := ⟨false, rfl, fun e => by cases e⟩

set_option maxRecDepth 100000 in
set_option maxHeartbeats 4000000 in
/-- whether the specifications fit: some answer; where it is yes, each does -/
theorem fits8_any (ao : Option Addr) (qs : List PubI) (c : Nat) (w : World) (h : PubsAt w ao qs) (hl : qs.length ≤ 9223372036854775807) :
    Calls Tryz.prog 17 #[.slice ao qs.length c] w fun e w' => FitsQ e qs ∧ Below w.heap.size w w' := by
  obtain ⟨n, hn⟩ : ∃ n, n = qs.length := ⟨_, rfl⟩
  have HN : Hid (n = qs.length) := hn
  have H := Lib.hid h
  rw [← hn] at hl ⊢
  clear hn h
  go_enter Tryz.func17, Tryz.ntmps17
  by_cases hbig : n ≤ 2147483647
  · have hd : decide ((n : Int) > 2147483647) = false := decide_eq_false (by omega)
    go_wp2_with fail
    go_loopg [10] n (fun mc iv wr => ∃ i : Nat, iv = .int .i64 i ∧ Hid (mc + i = n) ∧ i ≤ n ∧ Hid (∀ j, j < i → (qs.getD j zP).pr.size ≤ 2147483647 ∧ (qs.getD j zP).ip.size ≤ 2147483647) ∧ Hid (Below w.heap.size w wr))
    case atStart => exact ⟨0, rfl, rfl, Nat.zero_le _, fun j hj => absurd hj (Nat.not_lt_zero j), Below.refl _ _⟩
    case round =>
      obtain ⟨i, rfl, hmc, hi, hdone, hbel⟩ := hrel
      by_cases hin : i < n
      · have hlt : decide ((i : Int) < (n : Int)) = true := decide_eq_true (by omega)
        have i0 : (0 : Int) ≤ (i : Int) := by omega
        have i1 : (i : Int) < (n : Int) := by omega
        obtain ⟨x, rfl, hx, c0, c1, c2, c3, c4, c5⟩ := (H.out.below hbel.out) i (by have := HN.out; omega)
        obtain ⟨⟨qa, qb, qp, qi, qh, qg⟩, ho⟩ : ∃ o, o = qs.getD i zP := ⟨_, rfl⟩
        rw [← ho] at c0 c1 c2 c3 c4 c5
        have HO : Hid ((⟨qa, qb, qp, qi, qh, qg⟩ : PubI) = qs.getD i zP) := ho
        simp only at c0 c1 c2 c3 c4 c5
        clear ho
        go_wp2_with fail
        refine (fits6 qa qb qp qi qh qg _).mono ?_
        rintro e w3 ⟨⟨q, rfl, hq⟩, hb3⟩
        have hbel := Lib.hid ((hbel.out.alloc hbel.out.size _).trans (hb3.mono (by simp; have := hbel.out.size; omega)))
        have Hq := Lib.hid hq
        clear hb3 hq
        cases q with
        | true =>
          go_wp2_with fail
          go_roundg (gk - 1)
          case measure => have := hmc.out; omega
          case rel =>
            have e1 := hmc.out
            refine ⟨i + 1, by go_num, show _ = _ by omega, by omega, ?_, hbel⟩
            intro j hj
            by_cases hji : j = i
            · subst hji
              rw [← HO.out]
              exact Hq.out.1 trivial
            · exact hdone.out j (by omega)
        | false =>
          go_wp2_with fail
          go_ret
          exact ⟨FitsQ.no, hbel.out⟩
      · have hlt : decide ((i : Int) < (n : Int)) = false := decide_eq_false (by omega)
        go_wp2_with fail
        go_ret
        exact ⟨⟨true, rfl, fun _ j hj => hdone.out j (by have := HN.out; omega)⟩, hbel.out⟩
  · have hd : decide ((n : Int) > 2147483647) = true := decide_eq_true (by omega)
    go_wp2_with fail
    go_ret
    exact ⟨FitsQ.no, Below.refl _ _⟩
end Go.Proofs.YtdmggcbbfljciaaGreatDoor

/- how lists of specifications come in as arguments. -/
namespace Go.Proofs.YtdmggcbbfljciaaGreatDoor
open Go.ChangeShapes Go.WideShapes Go.ChangeAt Go.RowKit

set_option maxRecDepth 100000 in
theorem open_pubs {H : Type} {enc : TypeId × Value → H} {W : World} {r : Reach} {b0 : Nat} {v : Value} {d : DataW H} {p : List MemPlace} (hv : Value.okWide Tryz.prog W r b0 43 v) (h : DataW.Trod enc Tryz.prog W 0 (fun _ => true) true 43 v d p) :
    ∃ (ao : Option Addr) (qs : List PubI) (c : Nat), v = .slice ao qs.length c ∧ PubsAt W ao qs ∧ qs.length ≤ 9223372036854775807 := by
  obtain ⟨a0, len, cap, rfl⟩ := okWide_slice Tryz.underlying43 hv
  obtain ⟨fuel, hf⟩ := h
  have e6 : Tryz.prog.cellsOf 25 = 6 := by kernel_rfl
  rcases Deep.open_slice Tryz.underlying43 hf with ⟨hcs, _⟩ | ⟨a, len', cap', m, n, D, Pl, hcs, hb, hl, hc, hm, _, hx⟩
  · simp only [Value.cells, List.cons.injEq, and_true] at hcs
    rw [hcs]
    exact ⟨none, [], 0, rfl, fun i hi => absurd hi (by simp), by simp⟩
  · simp only [Value.cells, List.cons.injEq, and_true] at hcs
    rw [hcs]
    have hmm : len' ≤ m := by rw [hm]; split <;> omega
    have each : ∀ i, i < len' → ∃ q : PubI, ∀ k v, (pubV q)[k]? = some v → W.cell? ((a.add (i * 6)).add k) = some v := by
      intro i hi
      obtain ⟨cs, h1, h2⟩ := hx i (by omega)
      rw [e6] at h1
      obtain ⟨_, hlen, hcell⟩ := World.cells?_some h1
      obtain ⟨q, rfl⟩ := open_pub_cells hlen h2
      refine ⟨q, fun k v hk => ?_⟩
      have hk6 : k < 6 := by
        have := (List.getElem?_eq_some_iff.1 hk).1
        simpa [pubV] using this
      have h3 := hcell k hk6
      rw [hk] at h3
      exact h3
    obtain ⟨q, hq⟩ := @Deep.choose_lt PubI ⟨zP⟩ _ _ each
    have e1 : ((List.range len').map q).length = len' := by simp
    refine ⟨some a, (List.range len').map q, cap', by rw [e1], fun i hi => ?_, by rw [e1]; unfold maxLen at hc; omega⟩
    have hi2 : i < len' := by omega
    have e2 : ((List.range len').map q).getD i zP = q i := by simp [List.getD, hi2]
    have g0 := hq i hi2 0 _ rfl
    have hlt := World.block_lt_of_cell? W _ g0
    rw [add_block', add_block'] at hlt
    rw [e2]
    have pl : ∀ k, k ≠ 0 → (⟨(a.add (i * 6)).block, (a.add (i * 6)).off + k, none⟩ : Addr) = (a.add (i * 6)).add k := by
      intro k hk
      rw [add_plus _ _ _ hk, ← Deep.add_add]
    refine ⟨a, rfl, hlt, ?_, ?_, ?_, ?_, ?_, ?_⟩
    · simpa [Addr.add] using g0
    · rw [pl 1 (by decide)]; exact hq i hi2 1 _ rfl
    · rw [pl 2 (by decide)]; exact hq i hi2 2 _ rfl
    · rw [pl 3 (by decide)]; exact hq i hi2 3 _ rfl
    · rw [pl 4 (by decide)]; exact hq i hi2 4 _ rfl
    · rw [pl 5 (by decide)]; exact hq i hi2 5 _ rfl
end Go.Proofs.YtdmggcbbfljciaaGreatDoor

/- for the law FnSpecs: what an appended row of mappings is; the ports grow; the set of seen ports. -/
namespace Go.Proofs.YtdmggcbbfljciaaGreatDoor
open Go.RowKit Go.Lib Go.MapKept

theorem pub_pspec (ps : List Pub) (hps : ∀ p ∈ ps, p.Ok) : ∀ p, p ∈ ps → ∀ W, Tabs W → Calls Tryz.prog 26 #[.string (tx p.text)] W fun e w' => ∃ g c : Nat, e = .returned (.tuple #[.slice (some ⟨g, 0, none⟩) p.ms.length c, .nilIface]) ∧ W.heap.size ≤ g ∧ M3At w' g p.ms ∧ Below W.heap.size W w' :=
  fun p hp W hW => portSpec_ok p (hps p hp) W hW (pub_isIP p (hps p hp)) (pub_shp p)

theorem m3_news {w : World} {g : Nat} {l : List M3} (h : M3At w g l) : ∀ j u, (m3V l)[j]? = some u → w.cell? ((⟨g, 0, none⟩ : Addr).add j) = some u := by
  intro j u hj
  have hlt : j < l.length * 3 := by rw [← m3V_length]; exact (List.getElem?_eq_some_iff.1 hj).1
  have ea : (⟨g, 0, none⟩ : Addr).add j = ⟨g, j, none⟩ := by
    unfold Addr.add; split
    · rename_i h0; subst h0; rfl
    · simp
  rw [ea]
  have hq : j / 3 < l.length := by omega
  obtain ⟨a0, a1, a2⟩ := h (j / 3) hq
  obtain ⟨e0, e1, e2⟩ := m3V_at l (j / 3) hq
  have hm := Nat.mod_lt j (by decide : 0 < 3)
  rcases (by omega : j = j / 3 * 3 ∨ j = j / 3 * 3 + 1 ∨ j = j / 3 * 3 + 2) with e | e | e
  · rw [e] at hj ⊢; rw [e0] at hj; rw [a0]; exact hj
  · rw [e] at hj ⊢; rw [e1] at hj; rw [a1]; exact hj
  · rw [e] at hj ⊢; rw [e2] at hj; rw [a2]; exact hj

theorem m3_one (l : List M3) : ∀ u ∈ m3V l, u.oneCell' = true := by
  intro u hu
  unfold m3V at hu
  rw [List.mem_flatMap] at hu
  obtain ⟨m, _, hm⟩ := hu
  exact three_str _ _ _ u hm

theorem m3V_append (a b : List M3) : m3V (a ++ b) = m3V a ++ m3V b := by simp [m3V]

theorem bytes_less (x y : List UInt8) : Op.bytesLess x y = decide (x < y) := by
  induction x generalizing y with
  | nil => cases y <;> simp [Op.bytesLess]
  | cons a x ih =>
    cases y with
    | nil => simp [Op.bytesLess]
    | cons b y =>
      rw [Op.bytesLess, ih]
      simp only [List.cons_lt_cons_iff]
      by_cases h1 : a < b <;> by_cases h2 : a = b <;> by_cases h3 : x < y <;> simp [h1, h2, h3]

/-- growing texts, no two the same: each is less than the next -/
theorem grow_less {ts : List ByteArray} (hg : Growing ts) (hn : ts.Nodup) (i : Nat) (hi : i + 1 < ts.length) : Op.bytesLess (ts.getD i ⟨#[]⟩).toList (ts.getD (i + 1) ⟨#[]⟩).toList = true := by
  have e1 : ts.getD i ⟨#[]⟩ = ts[i] := by simp [List.getD, List.getElem?_eq_getElem (show i < ts.length by omega)]
  have e2 : ts.getD (i + 1) ⟨#[]⟩ = ts[i + 1] := by simp [List.getD, List.getElem?_eq_getElem hi]
  rw [e1, e2, bytes_less, ByteArray.toList_eq, ByteArray.toList_eq, decide_eq_true_eq]
  have h1 := List.pairwise_iff_getElem.1 hg i (i + 1) (by omega) hi (by omega)
  have h2 : ts[i] ≠ ts[i + 1] := fun e => by have := (List.getElem_inj hn).1 e; omega
  rcases List.le_iff_lt_or_eq.1 h1 with h | h
  · exact h
  · exact absurd (bytes_ext h) h2

theorem sel_take_yes (k : ByteArray) (all : List M3) (j : Nat) (hj : j < all.length) (h : tx (all.getD j ([], [], [])).1 = k) : sel k (all.take (j + 1)) = sel k (all.take j) ++ [all.getD j ([], [], [])] := by
  rw [m3_snoc _ _ hj, sel_snoc_same _ _ _ h]
theorem sel_take_no (k : ByteArray) (all : List M3) (j : Nat) (hj : j < all.length) (h : tx (all.getD j ([], [], [])).1 ≠ k) : sel k (all.take (j + 1)) = sel k (all.take j) := by
  rw [m3_snoc _ _ hj, sel_snoc_other _ _ _ h]

/-- as many seen ports as ports -/
theorem seen_len {lx : Pairs} {all : List M3} {ts : List ByteArray} (h : Keys lx all) (hn : (lx.map (·.1)).Nodup) (ht : ∀ k, k ∈ ts ↔ ∃ m ∈ all, tx m.1 = k) (hd : ts.Nodup) : lx.length = ts.length := by
  have hp : (lx.map (·.1)).Perm ts := (List.perm_ext_iff_of_nodup hn hd).2 fun k => by rw [Keys.mem h k, ht k]
  have := hp.length_eq
  simpa using this

theorem Keys.next {lx : Pairs} {all : List M3} {j : Nat} (h : Keys lx (all.take j)) (hj : j < all.length) (v : Value) : Keys (putP lx (tx (all.getD j ([], [], [])).1) v) (all.take (j + 1)) := by
  rw [m3_snoc _ _ hj]; exact h.put _ v

theorem own_cells_m3 {w : World} {B e n c : Nat} {ao : Option Addr} {l : List M3} (h : w.ownsRow B e 3 (.slice ao n c) l.length (m3V l)) (h0 : 0 < l.length) : ∃ g, ao = some ⟨g, 0, none⟩ ∧ B ≤ g ∧ M3At w g l := by
  obtain ⟨g, c', e, hg, hm⟩ := m3_of_own h rfl h0
  simp only [Value.slice.injEq] at e
  exact ⟨g, e.1, hg, hm⟩

theorem own_kept_kind {w w' : World} {B B' e e' sz sz' n n' : Nat} {v v' : Value} {xs xs' : List Value} (h : w.ownsRow B e sz v n xs) (h' : w.ownsRow B' e' sz' v' n' xs') (hne : e ≠ e') (hg : w.grownBy w' v'.ownBlock) : w'.ownsRow B e sz v n xs := by
  refine h.kept hg ?_
  cases eq : v.ownBlock with
  | none => exact Or.inl rfl
  | some b =>
    right
    intro e2
    obtain ⟨c, fz, h1⟩ := ownsRow_kind h b eq
    obtain ⟨c', fz', h2⟩ := ownsRow_kind h' b e2.symm
    rw [h1] at h2
    simp only [Option.some.injEq, Obj.cells.injEq] at h2
    exact hne h2.2.1

theorem bytes_beq {x y : ByteArray} (h : x ≠ y) : (x.toList == y.toList) = false :=
  beq_eq_false_iff_ne.2 fun e => h (bytes_ext (by rw [← ByteArray.toList_eq, ← ByteArray.toList_eq]; exact e))

theorem own_cells4 {wr w6 : World} {b : Nat} {ob : Obj} {row : Option Nat} (h : wr.heap[b]? = some ob) (hg : wr.grownBy w6 row) (hr : ∀ k, row = some k → b ≠ k) : w6.heap[b]? = some ob :=
  (hg.block b (Array.getElem?_eq_some_iff.1 h).1 (fun e => hr b e.symm rfl)).trans h

/-- the six cells of a specification in a block -/
theorem six_cells {w : World} {b : Nat} {x0 x1 x2 x3 x4 x5 : Value} {t : TypeId} (h : w.heap[b]? = some (.cells #[x0, x1, x2, x3, x4, x5] t (0, 0))) :
    w.cell? ⟨b, 0, none⟩ = some x0 ∧ w.cell? ⟨b, 1, none⟩ = some x1 ∧ w.cell? ⟨b, 2, none⟩ = some x2 ∧ w.cell? ⟨b, 3, none⟩ = some x3 ∧ w.cell? ⟨b, 4, none⟩ = some x4 ∧ w.cell? ⟨b, 5, none⟩ = some x5 :=
  ⟨row_cell (l := [x0, x1, x2, x3, x4, x5]) h (j := 0) rfl, row_cell (l := [x0, x1, x2, x3, x4, x5]) h (j := 1) rfl, row_cell (l := [x0, x1, x2, x3, x4, x5]) h (j := 2) rfl, row_cell (l := [x0, x1, x2, x3, x4, x5]) h (j := 3) rfl, row_cell (l := [x0, x1, x2, x3, x4, x5]) h (j := 4) rfl, row_cell (l := [x0, x1, x2, x3, x4, x5]) h (j := 5) rfl⟩
end Go.Proofs.YtdmggcbbfljciaaGreatDoor

/- the law FnSpecs: its walk. -/
namespace Go.Proofs.YtdmggcbbfljciaaGreatDoor
open Go.RowKit Go.Lib Go.MapKept

set_option maxRecDepth 100000 in
set_option maxHeartbeats 16000000 in
theorem fnSpecs_walk (ao : Option Addr) (qs : List PubI) (c : Nat) (w : World) (h : PubsAt w ao qs) (hl : qs.length ≤ 9223372036854775807) (hT : Tabs w) :
    Calls Tryz.prog 6 #[.slice ao qs.length c] w fun e w' => e = .returned (.bool true) ∧ Below w.heap.size w w' := by
  have HQ := Lib.hid h
  have Ht := Lib.hid hT
  have Hf := Lib.hid (fits8_any ao qs c w h hl)
  obtain ⟨n, hN⟩ : ∃ n, n = qs.length := ⟨_, rfl⟩
  have HN : Hid (n = qs.length) := hN
  obtain ⟨i0, hi, hz0, hz1, hz2⟩ := info_parts info9
  obtain ⟨m0, hm, hm0, hm1, hm2⟩ := info_parts info40
  rw [← hN] at Hf hl ⊢
  clear h hT hN
  go_enter Tryz.func6, Tryz.ntmps6
  go_wp2_with fail
  refine Hf.out.mono ?_
  rintro e w1 ⟨⟨q, rfl, hq⟩, hb1⟩
  have HB1 := Lib.hid hb1
  have Hq := Lib.hid hq
  clear hb1 hq Hf
  cases q with
  | false =>
    go_wp2_with fail
    go_ret
    exact ⟨rfl, HB1.out⟩
  | true =>
  have Hfit := Lib.hid (Hq.out rfl)
  by_cases h20 : n ≤ 20
  case neg =>
    have d20 : decide ((n : Int) > 20) = true := decide_eq_true (by omega)
    go_wp2_with fail
    refine (works_ok _ (Ht.out.below HB1.out)).mono ?_
    rintro e w8 ⟨rfl, hb8⟩
    have HB8 := Lib.hid (bl6 hb8 HB1.out)
    go_wp2_with fail
    go_ret
    exact ⟨rfl, HB8.out⟩
  case pos =>
  have d20 : decide ((n : Int) > 20) = false := decide_eq_false (by omega)
  go_wp2_with fail
  go_loopg [3, 4, 27] (n + 1) (fun m tv av iv wr => ∃ (i NA : Nat) (ps : List Pub), iv = .int .i64 i ∧ Hid (m + i = n + 1) ∧ i ≤ n ∧ Hid (ps.length = i) ∧ Hid (NA = (ps.flatMap Pub.ms).length) ∧ Hid (∀ p ∈ ps, p.Ok) ∧
    Hid (wr.ownsRow w.heap.size 9 1 tv i (strsV (ps.map fun p => tx p.text))) ∧ Hid (wr.ownsRow w.heap.size 40 3 av NA (m3V (ps.flatMap Pub.ms))) ∧ Hid (Below w.heap.size w wr))
  case atStart => exact ⟨0, 0, [], rfl, rfl, Nat.zero_le _, rfl, rfl, (fun p hp => by cases hp), World.ownsRow_nil _ _ _ _, World.ownsRow_nil _ _ _ _, HB1.out⟩
  case round =>
    obtain ⟨i, NA, ps, rfl, hmc, hin0, hpl, hNA, hps, htv, hav, hbel⟩ := hrel
    obtain ⟨aot, cct, rfl⟩ := owns_shape3 htv.out
    obtain ⟨aoa, cca, rfl⟩ := owns_shape3 hav.out
    have hNA4 : NA ≤ 4020 := by have h1 := flat_len ps hps.out; have h2 := hNA.out; have h3 := hpl.out; omega
    by_cases hin : i < n
    · have hlt : decide ((i : Int) < (n : Int)) = true := decide_eq_true (by omega)
      have q1 : (0 : Int) ≤ (i : Int) := by omega
      have q2 : (i : Int) < (n : Int) := by omega
      obtain ⟨x, rfl, hx, c0, c1, c2, c3, c4, c5⟩ := (HQ.out.below hbel.out) i (by have := HN.out; omega)
      have hz := Hfit.out i (by have := HN.out; omega)
      obtain ⟨⟨qa, qb, qp, qi, qh, qg⟩, ho⟩ : ∃ o, o = qs.getD i zP := ⟨_, rfl⟩
      rw [← ho] at c0 c1 c2 c3 c4 c5 hz
      have hzi : qi.size ≤ 140737488355328 := by simp only at hz; omega
      have Hpr := Lib.hid (proper_pub qa qb qp qi qh qg hzi)
      simp only at c0 c1 c2 c3 c4 c5
      clear ho hz hzi
      go_wp2_with fail
      refine (Hpr.out _).mono ?_
      rintro e w3 ⟨⟨q, rfl, hq⟩, hb3⟩
      have hbt := own_lt htv.out
      have hla : wr.heap.size < (wr.alloc (.cells #[.int .i64 qa, .int .i64 qb, .string qp, .string qi, .int .i64 qh, .int .i64 qg] 25)).heap.size := by simp
      have HBa := Lib.hid (hbel.out.alloc hbel.out.size (.cells #[.int .i64 qa, .int .i64 qb, .string qp, .string qi, .int .i64 qh, .int .i64 qg] 25))
      have HB3 := Lib.hid (bl6 hb3 HBa.out)
      have htv3 := Lib.hid (own_below3 (htv.out.alloc (.cells #[.int .i64 qa, .int .i64 qb, .string qp, .string qi, .int .i64 qh, .int .i64 qg] 25)) hb3)
      have hav3 := Lib.hid (own_below3 (hav.out.alloc (.cells #[.int .i64 qa, .int .i64 qb, .string qp, .string qi, .int .i64 qh, .int .i64 qg] 25)) hb3)
      have HR3 := Lib.hid ((hb3.block wr.heap.size hla).trans (heap_alloc_new wr (.cells #[.int .i64 qa, .int .i64 qb, .string qp, .string qi, .int .i64 qh, .int .i64 qg] 25)))
      have hs3 := hb3.size
      have Hq2 := Lib.hid hq
      clear hb3 hq htv hav hbel HBa c0 c1 c2 c3 c4 c5
      cases q with
      | false =>
        go_wp2_with fail
        refine (works_ok _ (Ht.out.below HB3.out)).mono ?_
        rintro e w8 ⟨rfl, hb8⟩
        have HB8 := Lib.hid (bl6 hb8 HB3.out)
        go_wp2_with fail
        go_ret
        exact ⟨rfl, HB8.out⟩
      | true =>
        have hok := Hq2.out.1 (by trivial)
        obtain ⟨p, hp, rfl, rfl, rfl, rfl, rfl, rfl⟩ := pub_of hok.1 hok.2
        have Hp := Lib.hid hp
        have hm1' := p.ms_len
        have hL1 : 1 ≤ p.ms.length := by omega
        have hL2 : p.ms.length ≤ 201 := by have := Hp.out.n; omega
        obtain ⟨c0, c1, c2, c3, c4, c5⟩ := six_cells HR3.out
        have hl3 : wr.heap.size < w3.heap.size := (Array.getElem?_eq_some_iff.1 HR3.out).1
        have hsw := HB3.out.size
        clear hok hp hm1' hs3 hla
        go_wp2_with fail
        refine (pub_text p Hp.out _).mono ?_
        rintro e w4 ⟨rfl, hb4⟩
        have htv4 := Lib.hid (own_below3 htv3.out hb4)
        have hav4 := Lib.hid (own_below3 hav3.out hb4)
        have HR4 := Lib.hid ((hb4.block _ hl3).trans HR3.out)
        have HB4 := Lib.hid (bl6 hb4 HB3.out)
        have hl4 := Nat.lt_of_lt_of_le hl3 hb4.size
        have hsw := HB4.out.size
        clear hb4 htv3 hav3 HR3 c0 c1 c2 c3 c4 c5
        go_wp2_with (at_builtin; (refine wpList_append_lies _ rfl (.tmp 35) (.tmp 38) 45 rfl w.heap.size 9 i0 (.string ⟨#[]⟩) 1 16 Tryz.underlying45 hi hz0 hz1 hz2 rfl (by decide) (.slice aot i cct) _ _ rfl (htv4.out.alloc _) ⟨_, 0, none⟩ 1 1 [.string (tx p.text)] rfl rfl (cell_one_at _ _ _ _ (by simp)) (one_str' _) (by decide) (by unfold maxLen; omega) (by omega) (by simp; omega) _ rfl ?_); intro gq cq w5 hown5 hg5 hat5 hlt5; have hge5 : ∀ k, (Value.slice aot i cct).ownBlock = some k → w.heap.size ≤ k := own_block_ge3 htv4.out; have hav5 := own_kept_kind (hav4.out.alloc (.cells #[.string (tx p.text)] 9)) (htv4.out.alloc (.cells #[.string (tx p.text)] 9)) (by decide) hg5; have r5 := own_cells4 ((Below.heap_alloc _ (.cells #[.string (tx p.text)] 9) _ hl4).trans HR4.out) hg5 (fun k hk e => by have := hbt k hk; omega); obtain ⟨c0, c1, c2, c3, c4, c5⟩ := six_cells r5)
        have HB5 := Lib.hid ((HB4.out.alloc HB4.out.size (.cells #[.string (tx p.text)] 9)).grown hg5 (by simp; omega) hge5)
        have Hown5 := Lib.hid hown5
        have Hav5 := Lib.hid hav5
        clear hg5 hat5 hown5 hav5 hge5 htv4 hav4 HR4 r5 hlt5 hl4
        refine (maps_ok p Hp.out _).mono ?_
        rintro e w6 ⟨gg, cc, rfl, hgg, hm3, hb6⟩
        have htv6 := Lib.hid (own_below3 Hown5.out hb6)
        have hav6 := Lib.hid (own_below3 Hav5.out hb6)
        have HB6 := Lib.hid (bl6 hb6 HB5.out)
        have HM6 := Lib.hid hm3
        have hsw := HB6.out.size
        clear hb6 hm3 hgg Hown5 Hav5 c0 c1 c2 c3 c4 c5
        go_wp2_with (at_builtin; (refine wpList_append_lies _ rfl (.tmp 40) (.tmp 42) 33 rfl w.heap.size 40 m0 (.agg #[.string ⟨#[]⟩, .string ⟨#[]⟩, .string ⟨#[]⟩]) 3 48 Tryz.underlying33 hm hm0 hm1 hm2 rfl (by decide) (.slice aoa NA cca) _ _ rfl hav6.out ⟨gg, 0, none⟩ p.ms.length cc (m3V p.ms) rfl (m3V_length _) (m3_news HM6.out) (m3_one _) (by omega) (by unfold maxLen; omega) (by omega) (by omega) _ rfl ?_); intro gz cz w7 hown7 hg7 hat7 hlt7)
        go_roundg (gk - 1)
        case measure => have := hmc.out; omega
        case rel =>
          have e1 := hmc.out
          have e2 := hpl.out
          have e3 := hNA.out
          refine ⟨i + 1, NA + p.ms.length, ps ++ [p], by go_num, (show _ = _ by omega), by omega, (show _ = _ by rw [List.length_append, List.length_singleton, e2]), ?_, ?_, ?_, ?_, ?_⟩
          · show _ = _
            rw [List.flatMap_append, List.length_append, ← e3]; simp
          · intro r hr
            rcases List.mem_append.1 hr with hr | hr
            · exact hps.out r hr
            · simp at hr; subst hr; exact Hp.out
          · show World.ownsRow _ _ _ _ _ _ _
            rw [List.map_append, List.map_singleton, strsV_snoc]
            exact own_kept_kind htv6.out hav6.out (by decide) hg7
          · show World.ownsRow _ _ _ _ _ _ _
            have ef : (ps ++ [p]).flatMap Pub.ms = ps.flatMap Pub.ms ++ p.ms := by rw [List.flatMap_append]; simp
            rw [ef, m3V_append]
            exact hown7
          · exact HB6.out.grown hg7 HB6.out.size (own_block_ge3 hav6.out)
    · obtain ⟨W0, hW0⟩ : ∃ W, W = wr := ⟨_, rfl⟩
      subst hW0
      obtain rfl : i = n := by omega
      have hlt : decide ((i : Int) < (i : Int)) = false := by simp
      have Hsp := Lib.hid (fun W hW hv => implSpecs_ok ps hps.out (by have := hpl.out; omega) w.heap.size (.slice aot i cct) W hW hv (pub_pspec ps hps.out))
      rw [hpl.out] at Hsp
      obtain ⟨all, hall⟩ : ∃ all, all = ps.flatMap Pub.ms := ⟨_, rfl⟩
      rw [← hall] at Hsp hNA hav
      clear hall
      go_wp2_with fail
      refine (Hsp.out _ (Ht.out.below hbel.out) htv.out).mono ?_
      rintro e w5 ⟨ts, pv, bv, vs, rfl, hpo, hbo, hvl, hgr, hnd, hmem, hr4, hb5⟩
      obtain ⟨aop, ccp, rfl⟩ := owns_shape3 hpo
      obtain ⟨aob, ccb, rfl⟩ := owns_shape3 hbo
      obtain ⟨N, hNe⟩ : ∃ N, N = ts.length := ⟨_, rfl⟩
      have HNt := Lib.hid hNe
      rw [← hNe] at hpo hbo hvl
      rw [← hNe]
      have HPo := Lib.hid hpo
      have HBo := Lib.hid hbo
      have Hvl := Lib.hid hvl
      have Hr4 := Lib.hid hr4
      have Hgr := Lib.hid hgr
      have Hnd := Lib.hid hnd
      have Hmem := Lib.hid hmem
      have HAl := Lib.hid (own_below3 hav.out hb5)
      have HB5 := Lib.hid (bl6 hb5 hbel.out)
      have hsw := hbel.out.size
      have hs5 := hb5.size
      have hne : ((N : Int) != (N : Int)) = false := by simp
      have hmk := @run_makeMap Tryz.prog
      have HM0 := Lib.hid (MapAt.made w5)
      have HBm : Hid (Below w5.heap.size w5 (w5.alloc (.map #[] 0))) := below_alloc1 _ _
      clear hpo hbo hvl hr4 hgr hnd hmem hb5 hav hbel htv Hsp hNe hps hpl
      go_wp2_with fail
      go_loopg [63] (NA + 1) (fun m jv wq => ∃ (j : Nat) (lx : Pairs), jv = .int .i64 j ∧ Hid (m + j = NA + 1) ∧ j ≤ NA ∧ Hid (MapAt wq w5.heap.size lx) ∧ Hid (Keys lx (all.take j)) ∧ Hid (Below w5.heap.size w5 wq))
      case atStart => exact ⟨0, [], rfl, rfl, Nat.zero_le _, HM0, Keys.nil, HBm⟩
      case round =>
        clear HM0 HBm
        obtain ⟨j, lx, rfl, hmj, hj0, hmap, hkeys, hbel⟩ := hrel
        by_cases hjn : j < NA
        · have hltj : decide ((j : Int) < (NA : Int)) = true := decide_eq_true (by omega)
          have p1 : (0 : Int) ≤ (j : Int) := by omega
          have p2 : (j : Int) < (NA : Int) := by omega
          have hja : j < all.length := by have := hNA.out; omega
          obtain ⟨ga, rfl, hga, hM⟩ := own_cells_m3 (l := all) (by have h := HAl.out; rw [hNA.out] at h; exact h) (by omega)
          obtain ⟨c0, c1, c2⟩ := (hM.below hbel.out) j hja
          have hkn := hkeys.out.next hja (.bool true)
          obtain ⟨m, hme⟩ : ∃ m, m = all.getD j ([], [], []) := ⟨_, rfl⟩
          rw [← hme] at c0 c1 c2 hkn
          have Hkn := Lib.hid hkn
          have hsq := hbel.out.size
          clear hme hM hkn
          go_wp2_with (at_mapUpdate; refine wpList_store _ rfl _ _ _ 49 rfl 9 4 Tryz.underlying49 Tryz.underlying9 w5.heap.size lx rfl (hmap.out.alloc _) (tx m.1) (.bool true) rfl rfl ?_; intro w7 hm7 hg7)
          go_roundg (gk - 1)
          case measure => have := hmj.out; omega
          case rel =>
            have e1 := hmj.out
            refine ⟨j + 1, _, by go_num, (show _ = _ by omega), by omega, hm7, Hkn.out, (hbel.out.alloc hsq (.cells #[.string (tx m.1), .string (tx m.2.1), .string (tx m.2.2)] 40)).grown hg7 (by simp; omega) (fun k hk => by cases hk; exact Nat.le_refl _)⟩
        · obtain rfl : NA = j := by omega
          have hltj : decide ((NA : Int) < (NA : Int)) = false := by simp
          have hks : Keys lx all := by have h := hkeys.out; rw [hNA.out, List.take_length] at h; exact h
          have hlx : lx.length = N := by rw [seen_len hks hmap.out.nodup Hmem.out Hnd.out]; exact HNt.out.symm
          have hln := fun ty => hmap.out.len (P := Tryz.prog) Tryz.underlying49 ty
          have hN4 : N ≤ NA := by rw [← hlx, hNA.out]; exact keys_len hks hmap.out.nodup
          rw [hlx] at hln
          clear hkeys hks hlx
          go_wp2_with fail
          go_loopg [78] (N + 1) (fun m iv wq => ∃ (i : Nat), iv = .int .i64 i ∧ Hid (m + i = N + 1) ∧ i ≤ N ∧ Hid (Below w5.heap.size w5 wq))
          case atStart => exact ⟨0, rfl, rfl, Nat.zero_le _, hbel⟩
          case round =>
            clear hmap hbel hln hmj hltj
            obtain ⟨G, hG⟩ : ∃ G, G = gk := ⟨_, rfl⟩
            subst hG
            obtain ⟨k0, rfl, hmi, hk0, hbel⟩ := hrel
            have hsq := hbel.out.size
            by_cases hkN : k0 < N
            · have hltk : decide ((k0 : Int) < (N : Int)) = true := decide_eq_true (by omega)
              have p1 : (0 : Int) ≤ (k0 : Int) := by omega
              have p2 : (k0 : Int) < (N : Int) := by omega
              have hkt : k0 < ts.length := by have := HNt.out; omega
              obtain ⟨gp, rfl, hgp, hgp2, hcp⟩ : ∃ g, aop = some ⟨g, 0, none⟩ ∧ W0.heap.size ≤ g ∧ g < w5.heap.size ∧ ∀ k, k < ts.length → w5.cell? ⟨g, k, none⟩ = some (.string (ts.getD k ⟨#[]⟩)) := by
                have h := HPo.out
                rw [HNt.out] at h
                exact (own_strs h (by omega)).2
              have ck := (show wr.cell? ⟨gp, k0, none⟩ = w5.cell? ⟨gp, k0, none⟩ from hbel.out.cell (p := ⟨gp, k0, none⟩) hgp2).trans (hcp k0 hkt)
              obtain ⟨k, hk⟩ : ∃ k, k = ts.getD k0 ⟨#[]⟩ := ⟨_, rfl⟩
              have Hk := Lib.hid hk
              rw [← hk] at ck
              have Hcp := Lib.hid hcp
              have hkm : k ∈ ts := by
                have e : ts.getD k0 ⟨#[]⟩ = ts[k0] := by simp [List.getD, List.getElem?_eq_getElem hkt]
                rw [hk, e]; exact List.getElem_mem _
              have Hpos := Lib.hid (sel_pos ((Hmem.out k).1 hkm))
              clear hk hkm hcp
              go_wp2_with fail
              go_loopg [15, 85] (NA + 1) (fun m sv jv wq => ∃ (j cnt : Nat), jv = .int .i64 j ∧ Hid (m + j = NA + 1) ∧ j ≤ NA ∧ Hid (cnt = (sel k (all.take j)).length) ∧ Hid (wq.ownsRow w5.heap.size 40 3 sv cnt (m3V (sel k (all.take j)))) ∧ Hid (Below w5.heap.size w5 wq))
              case atStart => exact ⟨0, 0, rfl, rfl, Nat.zero_le _, rfl, World.ownsRow_nil _ _ _ _, hbel⟩
              case round =>
                clear hbel ck
                obtain ⟨j, cnt, rfl, hmj, hj0, hcnt, hown, hbel⟩ := hrel
                obtain ⟨aow, ccw, rfl⟩ := owns_shape3 hown.out
                have hsq := hbel.out.size
                have hcn4 : cnt ≤ 4020 := by
                  have h1 := hcnt.out
                  have h2 := sel_len k (all.take j)
                  rw [List.length_take] at h2
                  omega
                by_cases hjn : j < NA
                · have hltj : decide ((j : Int) < (NA : Int)) = true := decide_eq_true (by omega)
                  have p3 : (0 : Int) ≤ (j : Int) := by omega
                  have p4 : (j : Int) < (NA : Int) := by omega
                  have hja : j < all.length := by have := hNA.out; omega
                  obtain ⟨ga, rfl, hga, hM⟩ := own_cells_m3 (l := all) (by have h := HAl.out; rw [hNA.out] at h; exact h) (by omega)
                  obtain ⟨c0, c1, c2⟩ := (hM.below hbel.out) j hja
                  by_cases hyes : tx (all.getD j ([], [], [])).1 = k
                  · have Hst := Lib.hid (sel_take_yes k all j hja hyes)
                    rw [hyes] at c0
                    have Hyes := Lib.hid hyes
                    obtain ⟨m, hme⟩ : ∃ m, m = all.getD j ([], [], []) := ⟨_, rfl⟩
                    rw [← hme] at c1 c2 Hst Hyes
                    clear hme hM hyes
                    go_wp2_with (at_builtin; (refine wpList_append_lies _ rfl (.tmp 93) (.tmp 95) 33 rfl w5.heap.size 40 m0 (.agg #[.string ⟨#[]⟩, .string ⟨#[]⟩, .string ⟨#[]⟩]) 3 48 Tryz.underlying33 hm hm0 hm1 hm2 rfl (by decide) (.slice aow cnt ccw) _ _ rfl ((hown.out.alloc _).alloc _) ⟨_, 0, none⟩ 1 1 [.string k, .string (tx m.2.1), .string (tx m.2.2)] rfl rfl (cell_three_at _ _ _ _ _ _ (by simp)) (three_str _ _ _) (by decide) (by unfold maxLen; omega) (by omega) (by simp; omega) _ rfl ?_); intro gq cq w9 hown9 hg9 hat9 hlt9)
                    go_roundg (gk - 1)
                    case measure => have := hmj.out; omega
                    case rel =>
                      have e1 := hmj.out
                      have e2 := hcnt.out
                      refine ⟨j + 1, cnt + 1, by go_num, (show _ = _ by omega), by omega, (show _ = _ by rw [Hst.out, List.length_append, List.length_singleton, ← e2]), ?_, ?_⟩
                      · show World.ownsRow _ _ _ _ _ _ _
                        rw [Hst.out, m3V_snoc, Hyes.out]
                        exact hown9
                      · exact ((hbel.out.trans ((below_al2 wr _ _).mono hsq)).grown hg9 (by simp; omega) (own_block_ge3 hown.out))
                  · have Hst := Lib.hid (sel_take_no k all j hja hyes)
                    obtain ⟨m, hme⟩ : ∃ m, m = all.getD j ([], [], []) := ⟨_, rfl⟩
                    rw [← hme] at c0 c1 c2 hyes
                    have hno := bytes_beq hyes
                    clear hme hM
                    go_wp2_with fail
                    go_roundg (gk - 1)
                    case measure => have := hmj.out; omega
                    case rel =>
                      have e1 := hmj.out
                      refine ⟨j + 1, cnt, by go_num, (show _ = _ by omega), by omega, (show _ = _ by rw [Hst.out]; exact hcnt.out), ?_, hbel.out.trans ((below_alloc1 wr _).mono hsq)⟩
                      show World.ownsRow _ _ _ _ _ _ _
                      rw [Hst.out]
                      exact hown.out.alloc _
                · obtain rfl : NA = j := by omega
                  have hltj : decide ((NA : Int) < (NA : Int)) = false := by simp
                  have hce : cnt = (sel k all).length := by have h := hcnt.out; rw [hNA.out, List.take_length] at h; exact h
                  have hwn : wr.ownsRow w5.heap.size 40 3 (.slice aow cnt ccw) (sel k all).length (m3V (sel k all)) := by
                    have h := hown.out
                    rw [hNA.out, List.take_length] at h
                    rw [← hce]; exact h
                  have hc0 : 0 < cnt := by rw [hce]; exact Hpos.out
                  obtain ⟨gw, rfl, hgw, hMw⟩ := own_cells_m3 hwn Hpos.out
                  have hbl : (bndV ts vs).length = N * 2 := by rw [bndV_length ts vs (by have := Hvl.out; have := HNt.out; omega), HNt.out]
                  obtain ⟨b0, b1⟩ := bndV_at ts vs (by have := Hvl.out; have := HNt.out; omega) k0 hkt
                  obtain ⟨gb, cb, hbe, hb1, hb2⟩ := HBo.out.form (by omega)
                  simp only [Value.slice.injEq, true_and] at hbe
                  obtain ⟨rfl, rfl⟩ := hbe
                  have hv4 := Hr4.out k0 (by have := Hvl.out; omega)
                  rw [← Hk.out] at hv4 b0
                  obtain ⟨gv, cv, hve, hv1, hv2⟩ := hv4.form Hpos.out
                  rw [hve] at hv4 b1
                  obtain ⟨gv', hge', -, hMv⟩ := own_cells_m3 hv4 Hpos.out
                  simp only [Option.some.injEq, Addr.mk.injEq, and_true] at hge'
                  subst hge'
                  have bc0 : wr.cell? ⟨gb, k0 * 2, none⟩ = some (.string k) := by
                    rw [hbel.out.cell (p := ⟨gb, k0 * 2, none⟩) hb2, HBo.out.cellAt (k0 * 2) (by omega)]; exact b0
                  have bc1 : wr.cell? ⟨gb, k0 * 2 + 1, none⟩ = some (.slice (some ⟨gv, 0, none⟩) cnt cv) := by
                    rw [hbel.out.cell (p := ⟨gb, k0 * 2 + 1, none⟩) hb2, HBo.out.cellAt (k0 * 2 + 1) (by omega), hce]; exact b1
                  have Hms := Lib.hid (mappings_same gv cv gw ccw (sel k all) wr (hMv.below hbel.out) hMw (by omega))
                  rw [← hce] at Hms
                  have hcz : ((cnt : Int) == 0) = false := beq_eq_false_iff_ne.2 (by omega)
                  have HbA := Lib.hid (bl6 hbel.out HB5.out)
                  clear b0 b1 hve hv4 hv1 hv2 hMv hMw hwn hbl hb1 hce hgw
                  by_cases hk00 : k0 = 0
                  · have hd0 : decide ((k0 : Int) > 0) = false := decide_eq_false (by omega)
                    have hd1 : decide (0 < k0) = false := decide_eq_false (by omega)
                    clear hk00
                    go_wp2_with fail
                    refine Hms.out.mono ?_
                    rintro e w7 ⟨rfl, hb7⟩
                    go_wp2_with fail
                    go_roundg (G - 1)
                    case measure => have := hmi.out; omega
                    case rel =>
                      have e1 := hmi.out
                      exact ⟨k0 + 1, by go_num, (show _ = _ by omega), by omega, hbel.out.trans (hb7.mono hsq)⟩
                  · obtain ⟨k1, hk1⟩ : ∃ k1, k0 = k1 + 1 := ⟨k0 - 1, by omega⟩
                    have HK1 := Lib.hid hk1
                    have hd0 : decide ((k0 : Int) > 0) = true := decide_eq_true (by omega)
                    have hd1 : decide (0 < k0) = true := decide_eq_true (by omega)
                    have hless : Op.bytesLess (ts.getD k1 ⟨#[]⟩).toList k.toList = true := by
                      rw [Hk.out, hk1]; exact grow_less Hgr.out Hnd.out k1 (by omega)
                    have ck1 := (show wr.cell? ⟨gp, k1, none⟩ = w5.cell? ⟨gp, k1, none⟩ from hbel.out.cell (p := ⟨gp, k1, none⟩) hgp2).trans (Hcp.out k1 (by omega))
                    have r1 : (0 : Int) ≤ (k1 : Int) := by omega
                    have r2 : (k1 : Int) < (N : Int) := by omega
                    have r3 : (0 : Int) ≤ (k0 : Int) - 1 := by omega
                    have r4 : (k0 : Int) - 1 < (N : Int) := by omega
                    have hwr : wrap64 ((k0 : Int) - 1) = (k1 : Int) := by rw [hk1]; unfold wrap64; omega
                    generalize ts.getD k1 ⟨#[]⟩ = kp at *
                    have ck2 : wr.cell? ⟨gp, k0 - 1, none⟩ = some (.string kp) := by rw [← ck1, hk1]; rfl
                    clear hk00 hk1
                    go_wp2_with fail
                    refine Hms.out.mono ?_
                    rintro e w7 ⟨rfl, hb7⟩
                    go_wp2_with fail
                    go_roundg (G - 1)
                    case measure => have := hmi.out; omega
                    case rel =>
                      have e1 := hmi.out
                      exact ⟨k0 + 1, by go_num, (show _ = _ by omega), by omega, hbel.out.trans (hb7.mono hsq)⟩
            · obtain rfl : N = k0 := by omega
              have hltk : decide ((N : Int) < (N : Int)) = false := by simp
              have HbA := Lib.hid (bl6 hbel.out HB5.out)
              go_wp2_with fail
              refine (works_ok _ (Ht.out.below HbA.out)).mono ?_
              rintro e w8 ⟨rfl, hb8⟩
              have HB8 := Lib.hid (bl6 hb8 HbA.out)
              go_wp2_with fail
              go_ret
              exact ⟨rfl, HB8.out⟩
end Go.Proofs.YtdmggcbbfljciaaGreatDoor
