/- impl.Get: the label of parts; dupSecOpt: the options of a label. -/
import Derived.Test.YtaloidnoeafgiaaGreatDoorParseL
namespace Go.Proofs.YtaloidnoeafgiaaGreatDoor
open Go.RowKit Go.Lib

/-- a map filled from pairs -/
def mapOf (l : List (ByteArray × ByteArray)) : Pairs := l.foldl (fun m p => putP m p.1 (.string p.2)) []
theorem mapOf_snoc (l : List (ByteArray × ByteArray)) (p : ByteArray × ByteArray) : mapOf (l ++ [p]) = putP (mapOf l) p.1 (.string p.2) := by simp [mapOf]

theorem mapOf_parts (x : Lab) : PartsL (mapOf (labPairs x)) x := by
  unfold labPairs
  split
  · rename_i h
    have hl := size0 h
    show Parts (putP (putP (putP [] kR (.string x.r)) kT (.string x.t)) kU (.string x.u)) x.u x.r x.t x.l
    refine ⟨?_, ?_, ?_, ?_⟩ <;> simp [lk_put, lk_nil, hl]
  · show Parts (putP (putP (putP (putP [] kL (.string x.l)) kR (.string x.r)) kT (.string x.t)) kU (.string x.u)) x.u x.r x.t x.l
    refine ⟨?_, ?_, ?_, ?_⟩ <;> simp [lk_put, lk_nil]

/-- pairs in a row -/
def PairsAt (w : World) (g : Nat) (l : List (ByteArray × ByteArray)) : Prop :=
  g < w.heap.size ∧ ∀ j, j < l.length → w.cell? ⟨g, j * 2, none⟩ = some (.string (l.getD j (kU, kU)).1) ∧ w.cell? ⟨g, j * 2 + 1, none⟩ = some (.string (l.getD j (kU, kU)).2)

theorem prV_at (l : List (ByteArray × ByteArray)) : ∀ j, j < l.length → (prV l)[j * 2]? = some (.string (l.getD j (kU, kU)).1) ∧ (prV l)[j * 2 + 1]? = some (.string (l.getD j (kU, kU)).2) := by
  induction l with
  | nil => intro j hj; simp at hj
  | cons a r ih =>
    intro j hj
    match j with
    | 0 => exact ⟨rfl, rfl⟩
    | j + 1 =>
      have := ih j (by simp at hj; omega)
      have e : prV (a :: r) = .string a.1 :: .string a.2 :: prV r := rfl
      rw [e]
      have e1 : (j + 1) * 2 = j * 2 + 1 + 1 := by omega
      rw [e1]
      simpa [List.getD] using this

theorem pairsAt_of_own {w : World} {B n : Nat} {v : Value} {l : List (ByteArray × ByteArray)} (h : w.ownsRow B 48 2 v n (prV l)) (hn : n = l.length) (h0 : 0 < n) : ∃ g c, v = .slice (some ⟨g, 0, none⟩) n c ∧ B ≤ g ∧ PairsAt w g l := by
  rcases h.2 with ⟨_, h1⟩ | ⟨g, cap, cur, rfl, hg, hh, h1, h2, h3, h4⟩
  · omega
  · refine ⟨g, cap, rfl, hg, (Array.getElem?_eq_some_iff.1 hh).1, fun j hj => ?_⟩
    have hc : ∀ i u, (prV l)[i]? = some u → w.cell? ⟨g, i, none⟩ = some u := by
      intro i u hu
      rw [← h4, List.getElem?_take] at hu
      split at hu
      · exact row_cell (l := cur.toList) (e := 48) (by simpa using hh) hu
      · cases hu
    obtain ⟨e1, e2⟩ := prV_at l j hj
    exact ⟨hc _ _ e1, hc _ _ e2⟩

theorem PairsAt.below {w w' : World} {g : Nat} {l : List (ByteArray × ByteArray)} (h : PairsAt w g l) (hb : Below w.heap.size w w') : PairsAt w' g l :=
  ⟨Nat.lt_of_lt_of_le h.1 hb.size, fun j hj => ⟨(hb.cell (p := ⟨g, j * 2, none⟩) h.1).trans (h.2 j hj).1, (hb.cell (p := ⟨g, j * 2 + 1, none⟩) h.1).trans (h.2 j hj).2⟩⟩

set_option maxRecDepth 100000 in
set_option maxHeartbeats 4000000 in
theorem implGet_any (g c : Nat) (x : Lab) (hx : x.Small) (w : World) (h : PairsAt w g (labPairs x)) :
    Calls Tryz.prog 20 #[.slice (some ⟨g, 0, none⟩) (labPairs x).length c] w fun e w' => ∃ s : ByteArray, e = .returned (.string s) ∧ Hid (s.data.toList = x.text) ∧ Below w.heap.size w w' := by
  have hmk := @run_makeMap Tryz.prog
  have HM : Hid (MapAt (w.alloc (.map #[] 0)) w.heap.size []) := MapAt.made w
  have HB0 : Hid (Below w.heap.size w (w.alloc (.map #[] 0))) := (Below.refl _ _).alloc (Nat.le_refl _) _
  obtain ⟨n, hn⟩ : ∃ n, n = (labPairs x).length := ⟨_, rfl⟩
  have HN : Hid (n = (labPairs x).length) := hn
  have H := Lib.hid h
  have hn4 : n ≤ 4 := by rw [hn]; unfold labPairs; split <;> simp
  rw [← hn]
  clear hn h
  go_enter Tryz.func20, Tryz.ntmps20
  go_wp2_with fail
  go_loopg [9] n (fun mc iv wr => ∃ i : Nat, iv = .int .i64 i ∧ Hid (mc + i = n) ∧ i ≤ n ∧ Hid (MapAt wr w.heap.size (mapOf ((labPairs x).take i))) ∧ Hid (Below w.heap.size w wr))
  case atStart => exact ⟨0, rfl, rfl, Nat.zero_le _, HM, HB0⟩
  case round =>
    obtain ⟨i, rfl, hmc, hin, hm, hbel⟩ := hrel
    clear HM HB0
    by_cases hi : i < n
    · have hlt : decide ((i : Int) < (n : Int)) = true := decide_eq_true (by omega)
      have i0' : (0 : Int) ≤ (i : Int) := by omega
      have i1 : (i : Int) < (n : Int) := by omega
      obtain ⟨_, hc⟩ := H.out.below hbel.out
      obtain ⟨c0, c1⟩ := hc i (by have := HN.out; omega)
      obtain ⟨⟨k, val⟩, ho⟩ : ∃ o, o = (labPairs x).getD i (kU, kU) := ⟨_, rfl⟩
      have HO : Hid ((k, val) = (labPairs x).getD i (kU, kU)) := ho
      rw [← ho] at c0 c1
      simp only at c0 c1
      have hm1 : MapAt (wr.alloc (.cells #[.string k, .string val] 48)) w.heap.size (mapOf ((labPairs x).take i)) := hm.out.alloc _
      have Hb1 : Hid (Below w.heap.size w (wr.alloc (.cells #[.string k, .string val] 48))) := hbel.out.alloc hbel.out.size _
      clear ho hc
      go_wp2_with (at_mapUpdate; refine wpList_store _ rfl _ _ _ 67 rfl 9 9 Tryz.underlying67 Tryz.underlying9 w.heap.size _ rfl hm1 _ _ rfl rfl ?_; intro w6 hm6 hg6)
      go_roundg (gk - 1)
      case measure => have := hmc.out; omega
      case rel =>
        have e1 := hmc.out
        refine ⟨i + 1, by go_num, show _ = _ by omega, by omega, ?_, Hb1.out.grown hg6 Hb1.out.size (fun j hj => by cases hj; exact Nat.le_refl _)⟩
        have e2 : (labPairs x).take (i + 1) = (labPairs x).take i ++ [(k, val)] := by
          have h3 : i < (labPairs x).length := by have := HN.out; omega
          rw [List.take_succ_eq_append_getElem h3]
          have e : (labPairs x).getD i (kU, kU) = (labPairs x)[i] := by simp [List.getD, List.getElem?_eq_getElem h3]
          rw [← e, ← HO.out]
        show MapAt _ _ _
        rw [e2, mapOf_snoc]
        exact hm6
    · obtain rfl : i = n := by omega
      have hlt : decide ((i : Int) < (i : Int)) = false := by simp
      have hm' := hm.out
      rw [List.take_of_length_le (by have := HN.out; omega)] at hm'
      have HG := Lib.hid (get_any w.heap.size _ x.u x.r x.t x.l (mapOf_parts x) hx.sized wr hm')
      clear hm'
      go_wp2_with (go_at_call 39; go_in)
      refine HG.out.mono ?_
      rintro e w4 ⟨s, rfl, hs, rfl⟩
      go_wp2_with fail
      go_ret
      exact ⟨s, rfl, hs, hbel.out⟩

/-- the options of a label -/
def labOpts (x : Lab) : List ByteArray := [(⟨#[117, 115, 101, 114, 58]⟩ : ByteArray) ++ x.u, (⟨#[114, 111, 108, 101, 58]⟩ : ByteArray) ++ x.r, (⟨#[116, 121, 112, 101, 58]⟩ : ByteArray) ++ x.t] ++ if x.l.size = 0 then [] else [(⟨#[108, 101, 118, 101, 108, 58]⟩ : ByteArray) ++ x.l]

theorem own_new (X : World) (e B : Nat) (l : List Value) (hB : B ≤ X.heap.size) (hl : l.length ≤ 1000) : (X.alloc (.cells l.toArray e)).ownsRow B e 1 (.slice (some ⟨X.heap.size, 0, none⟩) l.length l.length) l.length l :=
  ⟨by simp, Or.inr ⟨X.heap.size, l.length, l.toArray, rfl, hB, heap_alloc_new _ _, Nat.le_refl _, by unfold maxLen; omega, by simp, by simp⟩⟩

set_option maxRecDepth 100000 in
set_option maxHeartbeats 4000000 in
theorem dupSecOpt_any (s : ByteArray) (x : Lab) (hx : x.Ok) (hu : x.u.size ≠ 0) (hr : x.r.size ≠ 0) (ht : x.t.size ≠ 0) (hs : s.data.toList = x.text) (w : World) :
    Calls Tryz.prog 54 #[.string s] w fun e w' => ∃ v : Value, e = .returned (.tuple #[v, .nilIface]) ∧ w'.ownsRow w.heap.size 9 1 v (labOpts x).length (strsV (labOpts x)) ∧ Below w.heap.size w w' := by
  have hsz := labT_size hx.small hs
  have Hr := Lib.hid (newContext_any s x.u x.r x.t x.l hs hx.u hx.r hx.t (by omega))
  have hs0 := (str_some s (fun e => by rw [Lib.size_eq, e] at hsz; simp at hsz)).1
  have hsu := (str_some x.u (fun e => hu (by rw [Lib.size_eq, e]; rfl))).1
  have hsr := (str_some x.r (fun e => hr (by rw [Lib.size_eq, e]; rfl))).1
  have hst := (str_some x.t (fun e => ht (by rw [Lib.size_eq, e]; rfl))).1
  have HX := Lib.hid hx
  have su := hx.su
  have sr := hx.sr
  have st := hx.st
  have sl := hx.sl
  obtain ⟨i0, hi, hz0, hz1, hz2⟩ := info_parts info9
  clear hs hsz hx hu hr ht
  go_enter Tryz.func54, Tryz.ntmps54
  go_wp2_with (go_at_call 34; go_in)
  refine (Hr.out _).mono ?_
  rintro e w2 ⟨rfl, hm, hb2⟩
  have hp := parts_ctx x
  have e1 := hm.look Tryz.underlying67 Tryz.underlying9 (zero_str w2) kU false
  have e2 := hm.look Tryz.underlying67 Tryz.underlying9 (zero_str w2) kR false
  have e3 := hm.look Tryz.underlying67 Tryz.underlying9 (zero_str w2) kT false
  have e4 := hm.look Tryz.underlying67 Tryz.underlying9 (zero_str w2) kL false
  have e5 := (hm.alloc (.cells #[.string ((⟨#[117, 115, 101, 114, 58]⟩ : ByteArray) ++ x.u), .string ((⟨#[114, 111, 108, 101, 58]⟩ : ByteArray) ++ x.r), .string ((⟨#[116, 121, 112, 101, 58]⟩ : ByteArray) ++ x.t)] 9)).look Tryz.underlying67 Tryz.underlying9 (zero_str _) kL false
  simp only [Bool.false_eq_true, if_false] at e1 e2 e3 e4 e5
  rw [hp.u] at e1
  rw [hp.r] at e2
  rw [hp.t] at e3
  rw [hp.l] at e4 e5
  simp only [Option.getD_some] at e1 e2 e3
  have HB := Lib.hid hb2
  have hw2 := hb2.size
  clear hm hp hb2
  by_cases h0 : x.l.size = 0
  · have hb := (str_nil x.l (List.eq_nil_of_length_eq_zero (by rw [← Lib.size_eq]; exact h0))).1
    have HO : Hid (labOpts x = [(⟨#[117, 115, 101, 114, 58]⟩ : ByteArray) ++ x.u, (⟨#[114, 111, 108, 101, 58]⟩ : ByteArray) ++ x.r, (⟨#[116, 121, 112, 101, 58]⟩ : ByteArray) ++ x.t]) := by show _ = _; unfold labOpts; rw [if_pos h0]; rfl
    clear h0
    go_wp2_with fail
    go_ret2
    refine ⟨_, rfl, ?_, HB.out.alloc HB.out.size _⟩
    rw [HO.out]
    exact own_new w2 _ _ (strsV _) HB.out.size (by simp [strsV])
  · have hb := (str_some x.l (fun e => h0 (by rw [Lib.size_eq, e]; rfl))).1
    have HO : Hid (labOpts x = [(⟨#[117, 115, 101, 114, 58]⟩ : ByteArray) ++ x.u, (⟨#[114, 111, 108, 101, 58]⟩ : ByteArray) ++ x.r, (⟨#[116, 121, 112, 101, 58]⟩ : ByteArray) ++ x.t] ++ [(⟨#[108, 101, 118, 101, 108, 58]⟩ : ByteArray) ++ x.l]) := by show _ = _; unfold labOpts; rw [if_neg h0]
    have hown := own_new w2 9 w.heap.size (strsV [(⟨#[117, 115, 101, 114, 58]⟩ : ByteArray) ++ x.u, (⟨#[114, 111, 108, 101, 58]⟩ : ByteArray) ++ x.r, (⟨#[116, 121, 112, 101, 58]⟩ : ByteArray) ++ x.t]) HB.out.size (by simp [strsV])
    clear h0
    go_wp2_with (at_builtin; refine wpList_append_own _ rfl (.tmp 43) (.tmp 47) 49 rfl w.heap.size 9 i0 (.string ⟨#[]⟩) 1 16 Tryz.underlying49 hi hz0 hz1 hz2 rfl (by decide) _ _ _ rfl (hown.alloc _) ⟨w2.heap.size + 1, 0, none⟩ 1 1 [.string ((⟨#[108, 101, 118, 101, 108, 58]⟩ : ByteArray) ++ x.l)] rfl rfl (fun j u hj => by have h := cell_one_new (w2.alloc (.cells #[.string ((⟨#[117, 115, 101, 114, 58]⟩ : ByteArray) ++ x.u), .string ((⟨#[114, 111, 108, 101, 58]⟩ : ByteArray) ++ x.r), .string ((⟨#[116, 121, 112, 101, 58]⟩ : ByteArray) ++ x.t)] 9)) (.string ((⟨#[108, 101, 118, 101, 108, 58]⟩ : ByteArray) ++ x.l)) 9 j u hj; simpa using h) (one_str _) (by simp [strsV, maxLen]) (by simp [strsV]) (by simp; omega) ?_; intro v' w3 hown2 hgrow2 _)
    go_ret2
    refine ⟨_, rfl, ?_, (((HB.out.alloc HB.out.size _).alloc (by simp; omega) _)).grown hgrow2 (by simp; omega) (fun k hk => own_block_ge hown k hk)⟩
    rw [HO.out]
    have e : ∀ a b : List ByteArray, strsV (a ++ b) = strsV a ++ strsV b := fun a b => by simp [strsV]
    rw [e]
    exact hown2
end Go.Proofs.YtaloidnoeafgiaaGreatDoor
