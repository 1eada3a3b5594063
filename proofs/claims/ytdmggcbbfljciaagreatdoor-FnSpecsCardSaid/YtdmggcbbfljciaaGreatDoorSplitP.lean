/- splitParts, validateProto, strings.ToLower at a protocol's name. -/
import Derived.Test.YtdmggcbbfljciaaGreatDoorPubA
import Derived.Test.YtdmggcbbfljciaaGreatDoorNPort
import Derived.Test.YtdmggcbbfljciaaGreatDoorShelfU
import Derived.BigQuiet
import Derived.Deep.RegionHeld3
import Derived.Deep.Cut
namespace Go.Proofs.YtdmggcbbfljciaaGreatDoor
open Go.RowKit Go.Lib

/-- pieces as canonical texts -/
theorem tx_map {ss : List ByteArray} {ps : List (List UInt8)} (h : ss.map (fun x => x.data.toList) = ps) : ss = ps.map tx := by
  rw [← h, List.map_map]
  have : ∀ x ∈ ss, (tx ∘ fun x : ByteArray => x.data.toList) x = x := fun x _ => tx_self x
  rw [List.map_congr_left this, List.map_id']

/-- the pieces of a text lie in a row -/
theorem split_cells (s : ByteArray) (ps : List CL.Bs) (hp : ps ≠ []) (hs : s.data.toList = CL.joinC 58 ps) (hno : ∀ p ∈ ps, (58 : UInt8) ∉ p) (hl : s.size ≤ 1099511627776) (w : World) :
    Calls Tryz.prog 54 #[.string s, .string ⟨#[58]⟩] w fun e w' => ∃ g c : Nat, e = .returned (.slice (some ⟨g, 0, none⟩) ps.length c) ∧ ps.length ≤ c ∧ c ≤ maxLen ∧ g < w'.heap.size ∧ (∀ k, k < ps.length → w'.cell? ⟨g, k, none⟩ = some (.string (tx (ps.getD k [])))) ∧ Below w.heap.size w w' := by
  refine (nsplit_any s 58 ps hp hs hno hl w).mono ?_
  rintro e w' ⟨v, ss, rfl, hown, hss, hb⟩
  have hss2 := tx_map hss.out
  have hlen : ss.length = ps.length := by rw [hss2]; simp
  have h0 : 0 < ss.length := by rw [hlen]; exact List.length_pos_iff.2 hp
  obtain ⟨ao, c, rfl⟩ := owns_shape' hown
  obtain ⟨_, g, rfl, _, hlt, hc⟩ := own_strs hown h0
  have hcap : ss.length ≤ c ∧ c ≤ maxLen := by
    rcases hown.2 with ⟨_, h⟩ | ⟨g', cap, cur, he, _, _, h1, h2, h3, _⟩
    · omega
    · simp only [Value.slice.injEq] at he
      obtain ⟨_, _, rfl⟩ := he
      omega
  refine ⟨g, c, by rw [hlen], by omega, hcap.2, hlt, fun k hk => ?_, hb⟩
  rw [hc k (by omega), hss2]
  simp [List.getD, List.getElem?_map]
  cases h : ps[k]? with
  | none => rw [List.getElem?_eq_none_iff] at h; omega
  | some x => simp

set_option maxRecDepth 100000 in
set_option maxHeartbeats 2000000 in
theorem splitParts_one (s : ByteArray) (hno : (58 : UInt8) ∉ s.data.toList) (hl : s.size ≤ 1000000) (w : World) :
    Calls Tryz.prog 39 #[.string s] w fun e w' => e = .returned (.tuple #[.string ⟨#[]⟩, .string ⟨#[]⟩, .string s]) ∧ Below w.heap.size w w' := by
  have H := Lib.hid (split_cells s [s.data.toList] (by simp) (by simp [CL.joinC]) (by simpa using hno) (by omega) w)
  clear hno
  go_enter Tryz.func39, Tryz.ntmps39
  go_wp2_with fail
  refine H.out.mono ?_
  rintro e w2 ⟨g, c, rfl, hc1, hc2, hlt, hc, hb⟩
  have c0 := hc 0 (by simp)
  rw [show ([s.data.toList] : List CL.Bs).getD 0 [] = s.data.toList from rfl, tx_self] at c0
  have HB := Lib.hid hb
  clear hc hb H
  simp only [List.length_cons, List.length_nil, Nat.zero_add, Nat.reduceAdd]
  go_wp2_with fail
  go_quiet (fail)
  go_wp2_with fail
  go_ret3
  exact ⟨rfl, below_drewN HB.out _⟩

set_option maxRecDepth 100000 in
set_option maxHeartbeats 2000000 in
theorem splitParts_two (s : ByteArray) (x y : List UInt8) (hs : s.data.toList = x ++ 58 :: y) (hx : (58 : UInt8) ∉ x) (hy : (58 : UInt8) ∉ y) (hl : s.size ≤ 1000000) (w : World) :
    Calls Tryz.prog 39 #[.string s] w fun e w' => e = .returned (.tuple #[.string ⟨#[]⟩, .string (tx x), .string (tx y)]) ∧ Below w.heap.size w w' := by
  have H := Lib.hid (split_cells s [x, y] (by simp) (by rw [hs]; simp [CL.joinC]) (by intro p hp; simp at hp; rcases hp with rfl | rfl; exact hx; exact hy) (by omega) w)
  clear hs hx hy
  go_enter Tryz.func39, Tryz.ntmps39
  go_wp2_with fail
  refine H.out.mono ?_
  rintro e w2 ⟨g, c, rfl, hc1, hc2, hlt, hc, hb⟩
  have c0 := hc 0 (by simp)
  have c1 := hc 1 (by simp)
  rw [show ([x, y] : List CL.Bs).getD 0 [] = x from rfl] at c0
  rw [show ([x, y] : List CL.Bs).getD 1 [] = y from rfl] at c1
  have HB := Lib.hid hb
  clear hc hb H
  simp only [List.length_cons, List.length_nil, Nat.zero_add, Nat.reduceAdd]
  go_wp2_with fail
  go_quiet (fail)
  go_wp2_with fail
  go_ret3
  exact ⟨rfl, below_drewN HB.out _⟩

set_option maxRecDepth 100000 in
set_option maxHeartbeats 2000000 in
theorem splitParts_three (s : ByteArray) (x y z : List UInt8) (hs : s.data.toList = x ++ 58 :: (y ++ 58 :: z)) (hx : (58 : UInt8) ∉ x) (hy : (58 : UInt8) ∉ y) (hz : (58 : UInt8) ∉ z) (hl : s.size ≤ 1000000) (w : World) :
    Calls Tryz.prog 39 #[.string s] w fun e w' => e = .returned (.tuple #[.string (tx x), .string (tx y), .string (tx z)]) ∧ Below w.heap.size w w' := by
  have H := Lib.hid (split_cells s [x, y, z] (by simp) (by rw [hs]; simp [CL.joinC]) (by intro p hp; simp at hp; rcases hp with rfl | rfl | rfl; exact hx; exact hy; exact hz) (by omega) w)
  clear hs hx hy hz
  go_enter Tryz.func39, Tryz.ntmps39
  go_wp2_with fail
  refine H.out.mono ?_
  rintro e w2 ⟨g, c, rfl, hc1, hc2, hlt, hc, hb⟩
  have c0 := hc 0 (by simp)
  have c1 := hc 1 (by simp)
  have c2 := hc 2 (by simp)
  rw [show ([x, y, z] : List CL.Bs).getD 0 [] = x from rfl] at c0
  rw [show ([x, y, z] : List CL.Bs).getD 1 [] = y from rfl] at c1
  rw [show ([x, y, z] : List CL.Bs).getD 2 [] = z from rfl] at c2
  have HB := Lib.hid hb
  clear hc hb H
  simp only [List.length_cons, List.length_nil, Nat.zero_add, Nat.reduceAdd]
  go_wp2_with fail
  go_quiet (fail)
  go_wp2_with fail
  go_ret3
  exact ⟨rfl, below_drewN HB.out _⟩

set_option maxRecDepth 100000 in
set_option maxHeartbeats 2000000 in
theorem validateProto_ok (s : ByteArray) (h : ProtoL s.data.toList) (w : World) :
    Calls Tryz.prog 43 #[.string s] w fun e w' => e = .returned .nilIface ∧ Below w.heap.size w w' := by
  have e1 := lit_eq s [116, 99, 112]
  have e2 := lit_eq s [117, 100, 112]
  have e3 := lit_eq s [115, 99, 116, 112]
  rcases h with h | h | h
  · rw [decide_eq_true h] at e1
    clear h e2 e3
    go_enter Tryz.func43, Tryz.ntmps43
    go_wp2
    go_ret
    exact ⟨rfl, Below.refl _ _⟩
  · rw [decide_eq_false (by rw [h]; decide)] at e1
    rw [decide_eq_true h] at e2
    clear h e3
    go_enter Tryz.func43, Tryz.ntmps43
    go_wp2
    go_ret
    exact ⟨rfl, Below.refl _ _⟩
  · rw [decide_eq_false (by rw [h]; decide)] at e1
    rw [decide_eq_false (by rw [h]; decide)] at e2
    rw [decide_eq_true h] at e3
    clear h
    go_enter Tryz.func43, Tryz.ntmps43
    go_wp2
    go_ret
    exact ⟨rfl, Below.refl _ _⟩

set_option maxRecDepth 100000 in
set_option maxHeartbeats 4000000 in
theorem splitParts_five (s : ByteArray) (p0 p1 p2 x y J : List UInt8) (hs : s.data.toList = CL.joinC 58 [p0, p1, p2, x, y]) (hno : ∀ p ∈ [p0, p1, p2, x, y], (58 : UInt8) ∉ p) (hJ : Lib.join [p0, p1, p2] [58] = J) (hJl : J.length ≤ 100) (hl : s.size ≤ 1000000) (w : World) :
    Calls Tryz.prog 39 #[.string s] w fun e w' => e = .returned (.tuple #[.string (tx J), .string (tx x), .string (tx y)]) ∧ Below w.heap.size w w' := by
  have H := Lib.hid (split_cells s [p0, p1, p2, x, y] (by simp) hs hno (by omega) w)
  clear hs hno
  go_enter Tryz.func39, Tryz.ntmps39
  go_wp2_with fail
  refine H.out.mono ?_
  rintro e w2 ⟨g, c, rfl, hc1, hc2, hlt, hc, hb⟩
  have c3 := hc 3 (by simp)
  have c4 := hc 4 (by simp)
  rw [show ([p0, p1, p2, x, y] : List CL.Bs).getD 3 [] = x from rfl] at c3
  rw [show ([p0, p1, p2, x, y] : List CL.Bs).getD 4 [] = y from rfl] at c4
  have HB := Lib.hid hb
  obtain ⟨c, rfl⟩ : ∃ d, c = d + 5 := ⟨c - 5, (Nat.sub_add_cancel (show 5 ≤ c from by simpa using hc1)).symm⟩
  have hcki : (3 : Int) ≤ (c : Int) + 5 := by omega
  have hck : 3 ≤ c + 5 := by omega
  have hw1 : IntKind.i64.wrap ((5 : Int) - 2) = 3 := by decide
  have hw2 : IntKind.i64.wrap ((5 : Int) - 1) = 4 := by decide
  have hw3 : IntKind.i64.wrap (3 : Int) = 3 := by decide
  have hw4 : IntKind.i64.wrap (4 : Int) = 4 := by decide
  have HJ : Hid (∀ W, Below w2.heap.size w2 W → Calls Tryz.prog 55 #[.slice (some ⟨g, 0, none⟩) 3 (c + 5), .string ⟨#[58]⟩] W fun e w' => e = .returned (.string (tx J)) ∧ Below W.heap.size W w') := by
    intro W hW
    have h := Tryz.strings_Join g 0 (c + 5) ([p0, p1, p2].map tx) ⟨#[58]⟩ W (by
      intro j z hj
      have hjl : j < 3 := by
        have := (List.getElem?_eq_some_iff.1 hj).1
        simpa using this
      have h1 := (hW.cell (p := ⟨g, j, none⟩) hlt).trans (hc j (by simp; omega))
      rw [Nat.zero_add, h1]
      match j, hjl with
      | 0, _ => simp at hj; subst hj; rfl
      | 1, _ => simp at hj; subst hj; rfl
      | 2, _ => simp at hj; subst hj; rfl) (Nat.lt_of_lt_of_le hlt hW.size) (by simp) (by simp) (by
      have e : ([p0, p1, p2].map tx).map (fun x => x.data.toList) = [p0, p1, p2] := by simp [tx_list]
      rw [e]
      have e2 : (⟨#[58]⟩ : ByteArray).data.toList = [58] := rfl
      rw [e2, hJ]; omega)
    refine h.mono ?_
    rintro e w' ⟨rfl, hb'⟩
    refine ⟨?_, hb'⟩
    have e : ([p0, p1, p2].map tx).map (fun x => x.data.toList) = [p0, p1, p2] := by simp [tx_list]
    rw [e]
    have e2 : (⟨#[58]⟩ : ByteArray).data.toList = [58] := rfl
    rw [e2, hJ]; rfl
  clear hc hb H hc1 hc2
  simp only [List.length_cons, List.length_nil, Nat.zero_add, Nat.reduceAdd]
  have HB3 : Below w2.heap.size w2 w2 := Below.refl _ _
  go_upto_region 4 with fail
  have c30 := c3
  have c40 := c4
  go_region_held3 (fun W => W.cell? ⟨g, 3, none⟩ = some (.string (tx x)) ∧ W.cell? ⟨g, 4, none⟩ = some (.string (tx y)) ∧ Below w2.heap.size w2 W)
    (first | exact ⟨c3, c4, HB3⟩ | exact ⟨c3, c4, HB3.drew⟩)
    (first | (go_at_call 55; (first | (with_reducible refine (HJ.out _ HB3).mono ?_) | (with_reducible refine (HJ.out _ HB3.drew).mono ?_)); rintro e w3 ⟨rfl, hb3⟩; have HB3 : Below w2.heap.size w2 w3 := (by first | exact HB3.trans (hb3.mono HB3.size) | exact HB3.drew.trans (hb3.mono HB3.size)); have c3 := (HB3.cell (p := ⟨g, 3, none⟩) hlt).trans c30; have c4 := (HB3.cell (p := ⟨g, 4, none⟩) hlt).trans c40))
  all_goals go_wp2_with fail
  all_goals go_ret3
  all_goals exact ⟨rfl, HB.out.trans (HB3.mono HB.out.size)⟩

set_option maxRecDepth 100000 in
set_option maxHeartbeats 4000000 in
theorem splitParts_six (s : ByteArray) (p0 p1 p2 p3 x y J : List UInt8) (hs : s.data.toList = CL.joinC 58 [p0, p1, p2, p3, x, y]) (hno : ∀ p ∈ [p0, p1, p2, p3, x, y], (58 : UInt8) ∉ p) (hJ : Lib.join [p0, p1, p2, p3] [58] = J) (hJl : J.length ≤ 100) (hl : s.size ≤ 1000000) (w : World) :
    Calls Tryz.prog 39 #[.string s] w fun e w' => e = .returned (.tuple #[.string (tx J), .string (tx x), .string (tx y)]) ∧ Below w.heap.size w w' := by
  have H := Lib.hid (split_cells s [p0, p1, p2, p3, x, y] (by simp) hs hno (by omega) w)
  clear hs hno
  go_enter Tryz.func39, Tryz.ntmps39
  go_wp2_with fail
  refine H.out.mono ?_
  rintro e w2 ⟨g, c, rfl, hc1, hc2, hlt, hc, hb⟩
  have c4 := hc 4 (by simp)
  have c5 := hc 5 (by simp)
  rw [show ([p0, p1, p2, p3, x, y] : List CL.Bs).getD 4 [] = x from rfl] at c4
  rw [show ([p0, p1, p2, p3, x, y] : List CL.Bs).getD 5 [] = y from rfl] at c5
  have HB := Lib.hid hb
  obtain ⟨c, rfl⟩ : ∃ d, c = d + 6 := ⟨c - 6, (Nat.sub_add_cancel (show 6 ≤ c from by simpa using hc1)).symm⟩
  have hcki : (4 : Int) ≤ (c : Int) + 6 := by omega
  have hck : 4 ≤ c + 6 := by omega
  have hw1 : IntKind.i64.wrap ((6 : Int) - 2) = 4 := by decide
  have hw2 : IntKind.i64.wrap ((6 : Int) - 1) = 5 := by decide
  have hw3 : IntKind.i64.wrap (4 : Int) = 4 := by decide
  have hw4 : IntKind.i64.wrap (5 : Int) = 5 := by decide
  have HJ : Hid (∀ W, Below w2.heap.size w2 W → Calls Tryz.prog 55 #[.slice (some ⟨g, 0, none⟩) 4 (c + 6), .string ⟨#[58]⟩] W fun e w' => e = .returned (.string (tx J)) ∧ Below W.heap.size W w') := by
    intro W hW
    have h := Tryz.strings_Join g 0 (c + 6) ([p0, p1, p2, p3].map tx) ⟨#[58]⟩ W (by
      intro j z hj
      have hjl : j < 4 := by
        have := (List.getElem?_eq_some_iff.1 hj).1
        simpa using this
      have h1 := (hW.cell (p := ⟨g, j, none⟩) hlt).trans (hc j (by simp; omega))
      rw [Nat.zero_add, h1]
      match j, hjl with
      | 0, _ => simp at hj; subst hj; rfl
      | 1, _ => simp at hj; subst hj; rfl
      | 2, _ => simp at hj; subst hj; rfl
      | 3, _ => simp at hj; subst hj; rfl) (Nat.lt_of_lt_of_le hlt hW.size) (by simp) (by simp) (by
      have e : ([p0, p1, p2, p3].map tx).map (fun x => x.data.toList) = [p0, p1, p2, p3] := by simp [tx_list]
      rw [e]
      have e2 : (⟨#[58]⟩ : ByteArray).data.toList = [58] := rfl
      rw [e2, hJ]; omega)
    refine h.mono ?_
    rintro e w' ⟨rfl, hb'⟩
    refine ⟨?_, hb'⟩
    have e : ([p0, p1, p2, p3].map tx).map (fun x => x.data.toList) = [p0, p1, p2, p3] := by simp [tx_list]
    rw [e]
    have e2 : (⟨#[58]⟩ : ByteArray).data.toList = [58] := rfl
    rw [e2, hJ]; rfl
  clear hc hb H hc1 hc2
  simp only [List.length_cons, List.length_nil, Nat.zero_add, Nat.reduceAdd]
  have HB3 : Below w2.heap.size w2 w2 := Below.refl _ _
  go_upto_region 4 with fail
  have c40 := c4
  have c50 := c5
  go_region_held3 (fun W => W.cell? ⟨g, 4, none⟩ = some (.string (tx x)) ∧ W.cell? ⟨g, 5, none⟩ = some (.string (tx y)) ∧ Below w2.heap.size w2 W)
    (first | exact ⟨c4, c5, HB3⟩ | exact ⟨c4, c5, HB3.drew⟩)
    (first | (go_at_call 55; (first | (with_reducible refine (HJ.out _ HB3).mono ?_) | (with_reducible refine (HJ.out _ HB3.drew).mono ?_)); rintro e w3 ⟨rfl, hb3⟩; have HB3 : Below w2.heap.size w2 w3 := (by first | exact HB3.trans (hb3.mono HB3.size) | exact HB3.drew.trans (hb3.mono HB3.size)); have c4 := (HB3.cell (p := ⟨g, 4, none⟩) hlt).trans c40; have c5 := (HB3.cell (p := ⟨g, 5, none⟩) hlt).trans c50))
  all_goals go_wp2_with fail
  all_goals go_ret3
  all_goals exact ⟨rfl, HB.out.trans (HB3.mono HB.out.size)⟩

/-- a specification's three parts -/
theorem splitParts_pub (p : Pub) (hp : p.Ok) (w : World) :
    Calls Tryz.prog 39 #[.string (tx p.text)] w fun e w' => e = .returned (.tuple #[.string (tx p.ipT), .string (tx p.hostT), .string (tx p.outT)]) ∧ Below w.heap.size w w' := by
  have hl : (tx p.text).size ≤ 1000000 := by rw [tx_size]; have := Pub.text_len hp; omega
  have ho := Pub.out_no hp
  have hh := p.host_no
  by_cases h0 : p.ip = []
  · have hns : ¬ sixL p.ip := by rw [h0]; decide
    have e1 : p.ipT = [] := by rw [Pub.ipT, if_neg hns, h0]
    rw [e1]
    by_cases h1 : p.h = 0
    · have e2 : p.hostT = [] := p.host_nil.2 h1
      have e3 := Pub.text_out h0 h1
      rw [e2, e3]
      rw [e3] at hl
      exact splitParts_one (tx p.outT) ho hl w
    · have e3 := Pub.text_host h0 h1
      exact splitParts_two (tx p.text) p.hostT p.outT (by rw [tx_list, e3]) hh ho hl w
  · have e3 := Pub.text_ip h0
    by_cases h6 : sixL p.ip
    · have e1 : p.ipT = 91 :: p.ip ++ [93] := by rw [Pub.ipT, if_pos h6]
      have hnp := sixP_no _ h6
      have hjn := sixP_join _ h6
      rw [e1] at e3 ⊢
      have htx : (tx p.text).data.toList = CL.joinC 58 (sixP p.ip) ++ 58 :: (p.hostT ++ 58 :: p.outT) := by rw [tx_list, e3, hjn]
      rcases h6 with h | h | h | h
      · rw [h] at hnp htx ⊢
        exact splitParts_five (tx p.text) [91] [] [49, 93] p.hostT p.outT _ (by rw [htx]; rfl) (by
          intro q hq
          rcases List.mem_append.1 (show q ∈ sixP [58, 58, 49] ++ [p.hostT, p.outT] from hq) with hq | hq
          · exact hnp q hq
          · simp at hq; rcases hq with rfl | rfl; exact hh; exact ho) rfl (by decide) hl w
      · rw [h] at hnp htx ⊢
        exact splitParts_five (tx p.text) [91] [] [93] p.hostT p.outT _ (by rw [htx]; rfl) (by
          intro q hq
          rcases List.mem_append.1 (show q ∈ sixP [58, 58] ++ [p.hostT, p.outT] from hq) with hq | hq
          · exact hnp q hq
          · simp at hq; rcases hq with rfl | rfl; exact hh; exact ho) rfl (by decide) hl w
      · rw [h] at hnp htx ⊢
        exact splitParts_six (tx p.text) [91, 50, 48, 48, 49] [100, 98, 56] [] [49, 93] p.hostT p.outT _ (by rw [htx]; rfl) (by
          intro q hq
          rcases List.mem_append.1 (show q ∈ sixP [50, 48, 48, 49, 58, 100, 98, 56, 58, 58, 49] ++ [p.hostT, p.outT] from hq) with hq | hq
          · exact hnp q hq
          · simp at hq; rcases hq with rfl | rfl; exact hh; exact ho) rfl (by decide) hl w
      · rw [h] at hnp htx ⊢
        exact splitParts_five (tx p.text) [91, 102, 101, 56, 48] [] [97, 93] p.hostT p.outT _ (by rw [htx]; rfl) (by
          intro q hq
          rcases List.mem_append.1 (show q ∈ sixP [102, 101, 56, 48, 58, 58, 97] ++ [p.hostT, p.outT] from hq) with hq | hq
          · exact hnp q hq
          · simp at hq; rcases hq with rfl | rfl; exact hh; exact ho) rfl (by decide) hl w
    · have h4 : F4.Is p.ip := by
        rcases hp.ip with e | e | e
        · exact absurd e h0
        · exact e
        · exact absurd e h6
      have e1 : p.ipT = p.ip := by rw [Pub.ipT, if_neg h6]
      rw [e1] at e3 ⊢
      exact splitParts_three (tx p.text) p.ip p.hostT p.outT (by rw [tx_list, e3]) (h4.no 58 (by decide)) hh ho hl w

theorem toLower_proto (s : ByteArray) (h : ProtoL s.data.toList) (w : World) :
    Calls Tryz.prog 42 #[.string s] w fun e w' => e = .returned (.string s) ∧ Below w.heap.size w w' := by
  have hz : s.size ≤ 4 := by rw [Lib.size_eq]; rcases h with h | h | h <;> rw [h] <;> decide
  refine (Tryz.strings_ToLower_ascii s w (by omega) ?_).mono ?_
  · intro j b hb
    have hm : b ∈ s.data.toList := List.mem_of_getElem? hb
    rcases h with h | h | h <;> rw [h] at hm <;> simp at hm <;> rcases hm with rfl | rfl | rfl | rfl <;> decide
  · rintro e w' ⟨rfl, hb⟩
    refine ⟨?_, hb⟩
    have e : Lib.toLowerA s.data.toList = s.data.toList := by rcases h with h | h | h <;> rw [h] <;> decide
    rw [e]
end Go.Proofs.YtdmggcbbfljciaaGreatDoor
