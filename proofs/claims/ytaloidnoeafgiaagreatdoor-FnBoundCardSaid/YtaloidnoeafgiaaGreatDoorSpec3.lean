/- spec.Cats: the text of categories. -/
import Derived.Test.YtaloidnoeafgiaaGreatDoorSpec2
namespace Go.Proofs.YtaloidnoeafgiaaGreatDoor
open Go.RowKit Go.Lib

/-- the numbers that a slice holds -/
def NatsAt (w : World) (ao : Option Addr) (ns : List Nat) : Prop := ∀ i, i < ns.length → ∃ x : Addr, ao = some x ∧ x.block < w.heap.size ∧ w.cell? (x.add i) = some (.int .i64 (ns.getD i 0 : Nat))

theorem NatsAt.below {w w' : World} {ao : Option Addr} {l : List Nat} (h : NatsAt w ao l) (hb : Below w.heap.size w w') : NatsAt w' ao l := by
  intro i hi
  obtain ⟨x, h1, h2, h3⟩ := h i hi
  refine ⟨x, h1, Nat.lt_of_lt_of_le h2 hb.size, ?_⟩
  rw [hb.cell (by rw [add_block]; exact h2)]
  exact h3

theorem NatsAt.get {w : World} {x : Addr} {ns : List Nat} (h : NatsAt w (some x) ns) (i : Nat) (hi : i < ns.length) : w.cell? (x.add i) = some (.int .i64 (ns.getD i 0 : Nat)) := by
  obtain ⟨y, e, _, hc⟩ := h i hi
  cases e
  exact hc

theorem IntsAt.nats {w : World} {ao : Option Addr} {ns : List Nat} (h : IntsAt w ao (ns.map Int.ofNat)) : NatsAt w ao ns := by
  intro i hi
  obtain ⟨x, h1, h2, h3⟩ := h i (by simpa using hi)
  refine ⟨x, h1, h2, ?_⟩
  rw [h3]
  simp [List.getD, List.getElem?_eq_getElem hi]

theorem grows_nats : ∀ (l : List Int) (v : Int), -1 ≤ v → GrowsOn v l → ∃ ns : List Nat, l = ns.map Int.ofNat ∧ CL.Gr ns ∧ (∀ x ∈ ns, x ≤ 9999) ∧ ∀ x ∈ ns, v < (x : Int)
  | [], _, _, _ => ⟨[], rfl, List.Pairwise.nil, by simp, by simp⟩
  | c :: r, v, hv, h => by
    obtain ⟨h1, h2, h3⟩ := h
    obtain ⟨ns, rfl, hg, h9, hlo⟩ := grows_nats r c (by omega) h3
    refine ⟨c.toNat :: ns, ?_, ?_, ?_, ?_⟩
    · simp; omega
    · refine List.pairwise_cons.2 ⟨fun x hx => ?_, hg⟩
      have := hlo x hx; omega
    · intro x hx
      rcases List.mem_cons.1 hx with rfl | hx
      · omega
      · exact h9 x hx
    · intro x hx
      rcases List.mem_cons.1 hx with rfl | hx
      · omega
      · have := hlo x hx; omega

theorem getD_le {ns : List Nat} (h : ∀ x ∈ ns, x ≤ 9999) (i : Nat) : ns.getD i 0 ≤ 9999 := by
  by_cases hi : i < ns.length
  · have := h (ns.getD i 0) (by simp [List.getD, List.getElem?_eq_getElem hi])
    exact this
  · simp [List.getD, List.getElem?_eq_none (Nat.le_of_not_lt hi)]

set_option maxRecDepth 100000 in
set_option maxHeartbeats 4000000 in
theorem cats_spec (ao : Option Addr) (ns : List Nat) (c : Nat) (w : World) (h : NatsAt w ao ns) (h9 : ∀ x ∈ ns, x ≤ 9999) (hl : ns.length ≤ 500) :
    Calls Tryz.prog 46 #[.slice ao ns.length c] w fun e w' => ∃ r : ByteArray, e = .returned (.string r) ∧ Hid (r.data.toList = CL.catsT ns) ∧ r.size ≤ 15000000 ∧ Below w.heap.size w w' := by
  have Hn := Lib.hid h
  have H9 := Lib.hid h9
  clear h h9
  go_enter Tryz.func46, Tryz.ntmps46
  go_wp2_with fail
  go_loopg [3, 4] (ns.length + 1) (fun m ov iv wr => ∃ (o : ByteArray) (i : Nat), ov = .string o ∧ iv = .int .i64 i ∧ Hid (ns.length + 1 ≤ m + i) ∧ Hid (i ≤ ns.length) ∧ Hid (CL.CInv ns i o.data.toList) ∧ Hid (o.size ≤ 30000 * i) ∧ Hid (Below w.heap.size w wr))
  case atStart => exact ⟨⟨#[]⟩, 0, rfl, rfl, Nat.le_refl _, Nat.zero_le _, CL.CInv.start ns, Nat.zero_le _, Below.refl _ _⟩
  case round =>
    obtain ⟨o, i, rfl, rfl, hm, hi, hcv, hos, hbo⟩ := hrel
    obtain ⟨wo, rfl⟩ : ∃ wo : World, wo = wr := ⟨_, rfl⟩
    obtain ⟨go, rfl⟩ : ∃ go : Nat, go = gk := ⟨_, rfl⟩
    by_cases hin : i < ns.length
    · have hlt : decide ((i : Int) < (ns.length : Int)) = true := by simp; omega
      have hos2 : o.size ≤ 15000000 := by have := hos.out; omega
      go_wp2_with fail
      go_loopg [5] (ns.length + 1) (fun m jv wr => ∃ j : Nat, jv = .int .i64 j ∧ Hid (ns.length + 1 ≤ m + j) ∧ Hid (CL.InRun ns i j) ∧ Hid (Below w.heap.size w wr))
      case atStart => exact ⟨i, rfl, Nat.le_add_right _ _, CL.InRun.start ns i hin, hbo⟩
      case round =>
        obtain ⟨j, rfl, hmj, hrun, hbj⟩ := hrel
        have hjn : j < ns.length := hrun.out.2.1
        have hij : i ≤ j := hrun.out.1
        have hj1 : IntKind.i64.wrap ((j : Int) + 1) = (j : Int) + 1 := by rw [IntKind.wrap_i64]; omega
        have hi1 : IntKind.i64.wrap ((i : Int) + 1) = (i : Int) + 1 := by rw [IntKind.wrap_i64]; omega
        obtain ⟨x, rfl, hx, hc⟩ := (Hn.out.below hbj.out) j hjn
        have hci := (Hn.out.below hbj.out).get i hin
        have hyj := getD_le H9.out j
        have hyi := getD_le H9.out i
        have hrl := hrun.out.2.2.1
        have hp4 : (0 : Int) ≤ (j : Int) := by omega
        have hp5 : (j : Int) < (ns.length : Int) := by omega
        have hp6 : (0 : Int) ≤ (i : Int) := by omega
        have hp7 : (i : Int) < (ns.length : Int) := by omega
        have Hst : Hid (¬ (j + 1 < ns.length ∧ ns.getD (j + 1) 0 = ns.getD j 0 + 1) → CL.CInv ns (j + 1) (CL.cround o.data.toList (ns.getD i 0) (ns.getD j 0))) := fun hstop => CL.CInv.step hcv.out hrun.out hstop
        have Hsp : Hid (∀ y, y = ns.getD (j + 1) 0 → (j + 1 < ns.length ∧ y = ns.getD j 0 + 1) → CL.InRun ns i (j + 1)) := fun y hy e => hrun.out.step e.1 (by rw [← hy]; exact e.2)
        obtain ⟨b, hb⟩ : ∃ b, b = ns.getD j 0 := ⟨_, rfl⟩
        obtain ⟨a, ha⟩ : ∃ a, a = ns.getD i 0 := ⟨_, rfl⟩
        rw [← hb] at hc hyj hrl Hst Hsp
        rw [← ha] at hci hyi hrl Hst
        have Hrl := Lib.hid hrl
        clear hrl
        have hbw : IntKind.i64.wrap ((b : Int) + 1) = (b : Int) + 1 := by rw [IntKind.wrap_i64]; omega
        have Hbe := Lib.hid hb
        clear hb ha
        by_cases hj2 : j + 1 < ns.length
        · have hlt2 : decide ((j : Int) + 1 < (ns.length : Int)) = true := by simp; omega
          have hp1 : (0 : Int) ≤ (j : Int) + 1 := by omega
          have hp2 : (j : Int) + 1 < (ns.length : Int) := by omega
          have hp3 : ((j : Int) + 1).toNat = j + 1 := by omega
          have hc2 := (Hn.out.below hbj.out).get (j + 1) hj2
          obtain ⟨y, hy⟩ : ∃ y, y = ns.getD (j + 1) 0 := ⟨_, rfl⟩
          rw [← hy] at hc2
          have hc3 : wr.cell? ⟨x.block, x.off + (j + 1), none⟩ = some (.int .i64 (y : Int)) := by
            have e1 : x.add (j + 1) = ⟨x.block, x.off + (j + 1), none⟩ := by unfold Addr.add; rw [if_neg (by omega)]
            rw [← e1]; exact hc2
          have Hy := Lib.hid hy
          clear hy
          by_cases he : y = b + 1
          · subst he
            have hq : (((b + 1 : Nat) : Int) == (b : Int) + 1) = true := by simp
            have hq2 : (((b : Int) + 1) == (b : Int) + 1) = true := by simp
            have Hr2 : Hid (CL.InRun ns i (j + 1)) := Hsp.out _ Hy.out ⟨hj2, rfl⟩
            go_wp2
            go_quiet (fail)
            go_wp2
            go_roundg (gk - 1)
            case measure => have := hmj.out; omega
            case rel =>
              have e1 := hmj.out
              exact ⟨j + 1, by go_num, show _ ≤ _ by omega, Hr2, below_drewN hbj.out _⟩
          · have hq : ((y : Int) == (b : Int) + 1) = false := by simp; omega
            have Hs2 : Hid (CL.CInv ns (j + 1) (CL.cround o.data.toList a b)) := Hst.out (fun e => he (by rw [Hy.out]; exact e.2))
            by_cases ho : o.data.toList = []
            · have ho2 := str_nil o ho
              go_wp2
              go_quiet (fail)
              go_wp2_with fail
              have Hq : Hid ((o).data.toList = CL.comma o.data.toList) := by
                show _ = _
                rw [ho]; rfl
              have Hqs : Hid ((o).size ≤ 30000 * i + 1) := by
                show _ ≤ _
                have := hos.out
                omega
              have hqs2 : (o).size ≤ 15000001 := by have := Hqs.out; omega
              have hA : a ≤ 1073741824 := Nat.le_trans hyi (by decide)
              have hdA := decimal_any a hA
              refine (hdA _).mono ?_
              rintro e w2 ⟨r1, rfl, hr1, hb2⟩
              have hz1 : r1.size ≤ 10000 := by have := dec_len a; rw [Lib.size_eq, hr1.out]; omega
              have Hb2 : Hid (Below w.heap.size w w2) := (below_drewN hbj.out _).trans (hb2.mono (below_drewN hbj.out _).size)
              have hcj := (Hn.out.below Hb2.out).get j hjn
              rw [← Hbe.out] at hcj
              clear hb2
              by_cases hji : j = i + 1
              · have ht1 : ((j : Int) == (i : Int) + 1) = true := by simp; omega
                have Hji := Lib.hid hji
                clear hji
                have hi1' : IntKind.i64.wrap ((i : Int) + 1) = (i : Int) + 1 := by rw [IntKind.wrap_i64]; omega
                go_wp2_with fail
                have hB : b ≤ 1073741824 := Nat.le_trans hyj (by decide)
                have hdB := decimal_any b hB
                refine (hdB _).mono ?_
                rintro e w3 ⟨r2, rfl, hr2, hb3⟩
                have hz2 : r2.size ≤ 10000 := by have := dec_len b; rw [Lib.size_eq, hr2.out]; omega
                have Hb3 : Hid (Below w.heap.size w w3) := Hb2.out.trans (hb3.mono Hb2.out.size)
                have Hby : Hid ((o ++ (⟨#[99]⟩ ++ r1) ++ (⟨#[44, 99]⟩ ++ r2) : ByteArray).data.toList = CL.cround o.data.toList a b) := by
                  show _ = _
                  have h1 := Hrl.out
                  have h2 := Hji.out
                  rw [app_bytes, app_bytes, app_bytes, app_bytes, hr1.out, hr2.out, CL.cround, ← Hq.out, if_neg (by omega), if_pos (by omega)]
                  simp
                have Hsz : Hid ((o ++ (⟨#[99]⟩ ++ r1) ++ (⟨#[44, 99]⟩ ++ r2) : ByteArray).size ≤ 30000 * (j + 1)) := by
                  show _ ≤ _
                  have := Hqs.out
                  rw [ByteArray.size_append, ByteArray.size_append, ByteArray.size_append, ByteArray.size_append]
                  show _ + (1 + _) + (2 + _) ≤ _
                  omega
                go_wp2_with fail
                go_roundg (go - 1)
                case measure => have := hm.out; omega
                case rel =>
                  have e1 := hm.out
                  exact ⟨_, j + 1, rfl, by go_num, show _ ≤ _ by omega, show _ ≤ _ by omega, by show CL.CInv _ _ _; rw [Hby.out]; exact Hs2.out, Hsz, Hb3⟩
              · have ht1 : ((j : Int) == (i : Int) + 1) = false := by simp; omega
                have Hji := Lib.hid hji
                clear hji
                by_cases hjg : i < j
                · have Hjg := Lib.hid hjg
                  clear hjg
                  have ht2 : decide ((j : Int) > (i : Int)) = true := by have := Hjg.out; simp; omega
                  go_wp2_with fail
                  have hB : b ≤ 1073741824 := Nat.le_trans hyj (by decide)
                  have hdB := decimal_any b hB
                  refine (hdB _).mono ?_
                  rintro e w3 ⟨r2, rfl, hr2, hb3⟩
                  have hz2 : r2.size ≤ 10000 := by have := dec_len b; rw [Lib.size_eq, hr2.out]; omega
                  have Hb3 : Hid (Below w.heap.size w w3) := Hb2.out.trans (hb3.mono Hb2.out.size)
                  have Hby : Hid ((o ++ (⟨#[99]⟩ ++ r1) ++ (⟨#[46, 99]⟩ ++ r2) : ByteArray).data.toList = CL.cround o.data.toList a b) := by
                    show _ = _
                    have h1 := Hrl.out
                    have h2 := Hji.out
                    have h3 := Hjg.out
                    rw [app_bytes, app_bytes, app_bytes, app_bytes, hr1.out, hr2.out, CL.cround, ← Hq.out, if_neg (by omega), if_neg (by omega)]
                    simp
                  have Hsz : Hid ((o ++ (⟨#[99]⟩ ++ r1) ++ (⟨#[46, 99]⟩ ++ r2) : ByteArray).size ≤ 30000 * (j + 1)) := by
                    show _ ≤ _
                    have := Hqs.out
                    rw [ByteArray.size_append, ByteArray.size_append, ByteArray.size_append, ByteArray.size_append]
                    show _ + (1 + _) + (2 + _) ≤ _
                    omega
                  go_wp2_with fail
                  go_roundg (go - 1)
                  case measure => have := hm.out; omega
                  case rel =>
                    have e1 := hm.out
                    exact ⟨_, j + 1, rfl, by go_num, show _ ≤ _ by omega, show _ ≤ _ by omega, by show CL.CInv _ _ _; rw [Hby.out]; exact Hs2.out, Hsz, Hb3⟩
                · have ht2 : decide ((j : Int) > (i : Int)) = false := by simp; omega
                  have Hjg := Lib.hid hjg
                  clear hjg
                  have Hby : Hid ((o ++ (⟨#[99]⟩ ++ r1) : ByteArray).data.toList = CL.cround o.data.toList a b) := by
                    show _ = _
                    have h1 := Hrl.out
                    have h2 := Hjg.out
                    rw [app_bytes, app_bytes, hr1.out, CL.cround, ← Hq.out, if_pos (by omega)]
                    simp
                  have Hsz : Hid ((o ++ (⟨#[99]⟩ ++ r1) : ByteArray).size ≤ 30000 * (j + 1)) := by
                    show _ ≤ _
                    have := Hqs.out
                    rw [ByteArray.size_append, ByteArray.size_append]
                    show _ + (1 + _) ≤ _
                    omega
                  go_wp2_with fail
                  go_roundg (go - 1)
                  case measure => have := hm.out; omega
                  case rel =>
                    have e1 := hm.out
                    exact ⟨_, j + 1, rfl, by go_num, show _ ≤ _ by omega, show _ ≤ _ by omega, by show CL.CInv _ _ _; rw [Hby.out]; exact Hs2.out, Hsz, Hb2⟩
            · have ho2 := str_some o ho
              go_wp2
              go_quiet (fail)
              go_wp2_with fail
              have Hq : Hid ((o ++ ⟨#[44]⟩ : ByteArray).data.toList = CL.comma o.data.toList) := by
                show _ = _
                rw [app_bytes, CL.comma_cons _ ho]
              have Hqs : Hid ((o ++ ⟨#[44]⟩ : ByteArray).size ≤ 30000 * i + 1) := by
                show _ ≤ _
                have := hos.out
                rw [ByteArray.size_append]; show _ + 1 ≤ _; omega
              have hqs2 : (o ++ ⟨#[44]⟩ : ByteArray).size ≤ 15000001 := by have := Hqs.out; omega
              generalize (o ++ ⟨#[44]⟩ : ByteArray) = q at *
              have hA : a ≤ 1073741824 := Nat.le_trans hyi (by decide)
              have hdA := decimal_any a hA
              refine (hdA _).mono ?_
              rintro e w2 ⟨r1, rfl, hr1, hb2⟩
              have hz1 : r1.size ≤ 10000 := by have := dec_len a; rw [Lib.size_eq, hr1.out]; omega
              have Hb2 : Hid (Below w.heap.size w w2) := (below_drewN hbj.out _).trans (hb2.mono (below_drewN hbj.out _).size)
              have hcj := (Hn.out.below Hb2.out).get j hjn
              rw [← Hbe.out] at hcj
              clear hb2
              by_cases hji : j = i + 1
              · have ht1 : ((j : Int) == (i : Int) + 1) = true := by simp; omega
                have Hji := Lib.hid hji
                clear hji
                have hi1' : IntKind.i64.wrap ((i : Int) + 1) = (i : Int) + 1 := by rw [IntKind.wrap_i64]; omega
                go_wp2_with fail
                have hB : b ≤ 1073741824 := Nat.le_trans hyj (by decide)
                have hdB := decimal_any b hB
                refine (hdB _).mono ?_
                rintro e w3 ⟨r2, rfl, hr2, hb3⟩
                have hz2 : r2.size ≤ 10000 := by have := dec_len b; rw [Lib.size_eq, hr2.out]; omega
                have Hb3 : Hid (Below w.heap.size w w3) := Hb2.out.trans (hb3.mono Hb2.out.size)
                have Hby : Hid ((q ++ (⟨#[99]⟩ ++ r1) ++ (⟨#[44, 99]⟩ ++ r2) : ByteArray).data.toList = CL.cround o.data.toList a b) := by
                  show _ = _
                  have h1 := Hrl.out
                  have h2 := Hji.out
                  rw [app_bytes, app_bytes, app_bytes, app_bytes, Hq.out, hr1.out, hr2.out, CL.cround, if_neg (by omega), if_pos (by omega)]
                  simp
                have Hsz : Hid ((q ++ (⟨#[99]⟩ ++ r1) ++ (⟨#[44, 99]⟩ ++ r2) : ByteArray).size ≤ 30000 * (j + 1)) := by
                  show _ ≤ _
                  have := Hqs.out
                  rw [ByteArray.size_append, ByteArray.size_append, ByteArray.size_append, ByteArray.size_append]
                  show _ + (1 + _) + (2 + _) ≤ _
                  omega
                go_wp2_with fail
                go_roundg (go - 1)
                case measure => have := hm.out; omega
                case rel =>
                  have e1 := hm.out
                  exact ⟨_, j + 1, rfl, by go_num, show _ ≤ _ by omega, show _ ≤ _ by omega, by show CL.CInv _ _ _; rw [Hby.out]; exact Hs2.out, Hsz, Hb3⟩
              · have ht1 : ((j : Int) == (i : Int) + 1) = false := by simp; omega
                have Hji := Lib.hid hji
                clear hji
                by_cases hjg : i < j
                · have Hjg := Lib.hid hjg
                  clear hjg
                  have ht2 : decide ((j : Int) > (i : Int)) = true := by have := Hjg.out; simp; omega
                  go_wp2_with fail
                  have hB : b ≤ 1073741824 := Nat.le_trans hyj (by decide)
                  have hdB := decimal_any b hB
                  refine (hdB _).mono ?_
                  rintro e w3 ⟨r2, rfl, hr2, hb3⟩
                  have hz2 : r2.size ≤ 10000 := by have := dec_len b; rw [Lib.size_eq, hr2.out]; omega
                  have Hb3 : Hid (Below w.heap.size w w3) := Hb2.out.trans (hb3.mono Hb2.out.size)
                  have Hby : Hid ((q ++ (⟨#[99]⟩ ++ r1) ++ (⟨#[46, 99]⟩ ++ r2) : ByteArray).data.toList = CL.cround o.data.toList a b) := by
                    show _ = _
                    have h1 := Hrl.out
                    have h2 := Hji.out
                    have h3 := Hjg.out
                    rw [app_bytes, app_bytes, app_bytes, app_bytes, Hq.out, hr1.out, hr2.out, CL.cround, if_neg (by omega), if_neg (by omega)]
                    simp
                  have Hsz : Hid ((q ++ (⟨#[99]⟩ ++ r1) ++ (⟨#[46, 99]⟩ ++ r2) : ByteArray).size ≤ 30000 * (j + 1)) := by
                    show _ ≤ _
                    have := Hqs.out
                    rw [ByteArray.size_append, ByteArray.size_append, ByteArray.size_append, ByteArray.size_append]
                    show _ + (1 + _) + (2 + _) ≤ _
                    omega
                  go_wp2_with fail
                  go_roundg (go - 1)
                  case measure => have := hm.out; omega
                  case rel =>
                    have e1 := hm.out
                    exact ⟨_, j + 1, rfl, by go_num, show _ ≤ _ by omega, show _ ≤ _ by omega, by show CL.CInv _ _ _; rw [Hby.out]; exact Hs2.out, Hsz, Hb3⟩
                · have ht2 : decide ((j : Int) > (i : Int)) = false := by simp; omega
                  have Hjg := Lib.hid hjg
                  clear hjg
                  have Hby : Hid ((q ++ (⟨#[99]⟩ ++ r1) : ByteArray).data.toList = CL.cround o.data.toList a b) := by
                    show _ = _
                    have h1 := Hrl.out
                    have h2 := Hjg.out
                    rw [app_bytes, app_bytes, Hq.out, hr1.out, CL.cround, if_pos (by omega)]
                    simp
                  have Hsz : Hid ((q ++ (⟨#[99]⟩ ++ r1) : ByteArray).size ≤ 30000 * (j + 1)) := by
                    show _ ≤ _
                    have := Hqs.out
                    rw [ByteArray.size_append, ByteArray.size_append]
                    show _ + (1 + _) ≤ _
                    omega
                  go_wp2_with fail
                  go_roundg (go - 1)
                  case measure => have := hm.out; omega
                  case rel =>
                    have e1 := hm.out
                    exact ⟨_, j + 1, rfl, by go_num, show _ ≤ _ by omega, show _ ≤ _ by omega, by show CL.CInv _ _ _; rw [Hby.out]; exact Hs2.out, Hsz, Hb2⟩
        · have hlt2 : decide ((j : Int) + 1 < (ns.length : Int)) = false := by simp; omega
          have Hs2 : Hid (CL.CInv ns (j + 1) (CL.cround o.data.toList a b)) := Hst.out (fun e => hj2 e.1)
          by_cases ho : o.data.toList = []
          · have ho2 := str_nil o ho
            go_wp2
            go_quiet (fail)
            go_wp2_with fail
            have Hq : Hid ((o).data.toList = CL.comma o.data.toList) := by
              show _ = _
              rw [ho]; rfl
            have Hqs : Hid ((o).size ≤ 30000 * i + 1) := by
              show _ ≤ _
              have := hos.out
              omega
            have hqs2 : (o).size ≤ 15000001 := by have := Hqs.out; omega
            have hA : a ≤ 1073741824 := Nat.le_trans hyi (by decide)
            have hdA := decimal_any a hA
            refine (hdA _).mono ?_
            rintro e w2 ⟨r1, rfl, hr1, hb2⟩
            have hz1 : r1.size ≤ 10000 := by have := dec_len a; rw [Lib.size_eq, hr1.out]; omega
            have Hb2 : Hid (Below w.heap.size w w2) := (below_drewN hbj.out _).trans (hb2.mono (below_drewN hbj.out _).size)
            have hcj := (Hn.out.below Hb2.out).get j hjn
            rw [← Hbe.out] at hcj
            clear hb2
            by_cases hji : j = i + 1
            · have ht1 : ((j : Int) == (i : Int) + 1) = true := by simp; omega
              have Hji := Lib.hid hji
              clear hji
              have hi1' : IntKind.i64.wrap ((i : Int) + 1) = (i : Int) + 1 := by rw [IntKind.wrap_i64]; omega
              go_wp2_with fail
              have hB : b ≤ 1073741824 := Nat.le_trans hyj (by decide)
              have hdB := decimal_any b hB
              refine (hdB _).mono ?_
              rintro e w3 ⟨r2, rfl, hr2, hb3⟩
              have hz2 : r2.size ≤ 10000 := by have := dec_len b; rw [Lib.size_eq, hr2.out]; omega
              have Hb3 : Hid (Below w.heap.size w w3) := Hb2.out.trans (hb3.mono Hb2.out.size)
              have Hby : Hid ((o ++ (⟨#[99]⟩ ++ r1) ++ (⟨#[44, 99]⟩ ++ r2) : ByteArray).data.toList = CL.cround o.data.toList a b) := by
                show _ = _
                have h1 := Hrl.out
                have h2 := Hji.out
                rw [app_bytes, app_bytes, app_bytes, app_bytes, hr1.out, hr2.out, CL.cround, ← Hq.out, if_neg (by omega), if_pos (by omega)]
                simp
              have Hsz : Hid ((o ++ (⟨#[99]⟩ ++ r1) ++ (⟨#[44, 99]⟩ ++ r2) : ByteArray).size ≤ 30000 * (j + 1)) := by
                show _ ≤ _
                have := Hqs.out
                rw [ByteArray.size_append, ByteArray.size_append, ByteArray.size_append, ByteArray.size_append]
                show _ + (1 + _) + (2 + _) ≤ _
                omega
              go_wp2_with fail
              go_roundg (go - 1)
              case measure => have := hm.out; omega
              case rel =>
                have e1 := hm.out
                exact ⟨_, j + 1, rfl, by go_num, show _ ≤ _ by omega, show _ ≤ _ by omega, by show CL.CInv _ _ _; rw [Hby.out]; exact Hs2.out, Hsz, Hb3⟩
            · have ht1 : ((j : Int) == (i : Int) + 1) = false := by simp; omega
              have Hji := Lib.hid hji
              clear hji
              by_cases hjg : i < j
              · have Hjg := Lib.hid hjg
                clear hjg
                have ht2 : decide ((j : Int) > (i : Int)) = true := by have := Hjg.out; simp; omega
                go_wp2_with fail
                have hB : b ≤ 1073741824 := Nat.le_trans hyj (by decide)
                have hdB := decimal_any b hB
                refine (hdB _).mono ?_
                rintro e w3 ⟨r2, rfl, hr2, hb3⟩
                have hz2 : r2.size ≤ 10000 := by have := dec_len b; rw [Lib.size_eq, hr2.out]; omega
                have Hb3 : Hid (Below w.heap.size w w3) := Hb2.out.trans (hb3.mono Hb2.out.size)
                have Hby : Hid ((o ++ (⟨#[99]⟩ ++ r1) ++ (⟨#[46, 99]⟩ ++ r2) : ByteArray).data.toList = CL.cround o.data.toList a b) := by
                  show _ = _
                  have h1 := Hrl.out
                  have h2 := Hji.out
                  have h3 := Hjg.out
                  rw [app_bytes, app_bytes, app_bytes, app_bytes, hr1.out, hr2.out, CL.cround, ← Hq.out, if_neg (by omega), if_neg (by omega)]
                  simp
                have Hsz : Hid ((o ++ (⟨#[99]⟩ ++ r1) ++ (⟨#[46, 99]⟩ ++ r2) : ByteArray).size ≤ 30000 * (j + 1)) := by
                  show _ ≤ _
                  have := Hqs.out
                  rw [ByteArray.size_append, ByteArray.size_append, ByteArray.size_append, ByteArray.size_append]
                  show _ + (1 + _) + (2 + _) ≤ _
                  omega
                go_wp2_with fail
                go_roundg (go - 1)
                case measure => have := hm.out; omega
                case rel =>
                  have e1 := hm.out
                  exact ⟨_, j + 1, rfl, by go_num, show _ ≤ _ by omega, show _ ≤ _ by omega, by show CL.CInv _ _ _; rw [Hby.out]; exact Hs2.out, Hsz, Hb3⟩
              · have ht2 : decide ((j : Int) > (i : Int)) = false := by simp; omega
                have Hjg := Lib.hid hjg
                clear hjg
                have Hby : Hid ((o ++ (⟨#[99]⟩ ++ r1) : ByteArray).data.toList = CL.cround o.data.toList a b) := by
                  show _ = _
                  have h1 := Hrl.out
                  have h2 := Hjg.out
                  rw [app_bytes, app_bytes, hr1.out, CL.cround, ← Hq.out, if_pos (by omega)]
                  simp
                have Hsz : Hid ((o ++ (⟨#[99]⟩ ++ r1) : ByteArray).size ≤ 30000 * (j + 1)) := by
                  show _ ≤ _
                  have := Hqs.out
                  rw [ByteArray.size_append, ByteArray.size_append]
                  show _ + (1 + _) ≤ _
                  omega
                go_wp2_with fail
                go_roundg (go - 1)
                case measure => have := hm.out; omega
                case rel =>
                  have e1 := hm.out
                  exact ⟨_, j + 1, rfl, by go_num, show _ ≤ _ by omega, show _ ≤ _ by omega, by show CL.CInv _ _ _; rw [Hby.out]; exact Hs2.out, Hsz, Hb2⟩
          · have ho2 := str_some o ho
            go_wp2
            go_quiet (fail)
            go_wp2_with fail
            have Hq : Hid ((o ++ ⟨#[44]⟩ : ByteArray).data.toList = CL.comma o.data.toList) := by
              show _ = _
              rw [app_bytes, CL.comma_cons _ ho]
            have Hqs : Hid ((o ++ ⟨#[44]⟩ : ByteArray).size ≤ 30000 * i + 1) := by
              show _ ≤ _
              have := hos.out
              rw [ByteArray.size_append]; show _ + 1 ≤ _; omega
            have hqs2 : (o ++ ⟨#[44]⟩ : ByteArray).size ≤ 15000001 := by have := Hqs.out; omega
            generalize (o ++ ⟨#[44]⟩ : ByteArray) = q at *
            have hA : a ≤ 1073741824 := Nat.le_trans hyi (by decide)
            have hdA := decimal_any a hA
            refine (hdA _).mono ?_
            rintro e w2 ⟨r1, rfl, hr1, hb2⟩
            have hz1 : r1.size ≤ 10000 := by have := dec_len a; rw [Lib.size_eq, hr1.out]; omega
            have Hb2 : Hid (Below w.heap.size w w2) := (below_drewN hbj.out _).trans (hb2.mono (below_drewN hbj.out _).size)
            have hcj := (Hn.out.below Hb2.out).get j hjn
            rw [← Hbe.out] at hcj
            clear hb2
            by_cases hji : j = i + 1
            · have ht1 : ((j : Int) == (i : Int) + 1) = true := by simp; omega
              have Hji := Lib.hid hji
              clear hji
              have hi1' : IntKind.i64.wrap ((i : Int) + 1) = (i : Int) + 1 := by rw [IntKind.wrap_i64]; omega
              go_wp2_with fail
              have hB : b ≤ 1073741824 := Nat.le_trans hyj (by decide)
              have hdB := decimal_any b hB
              refine (hdB _).mono ?_
              rintro e w3 ⟨r2, rfl, hr2, hb3⟩
              have hz2 : r2.size ≤ 10000 := by have := dec_len b; rw [Lib.size_eq, hr2.out]; omega
              have Hb3 : Hid (Below w.heap.size w w3) := Hb2.out.trans (hb3.mono Hb2.out.size)
              have Hby : Hid ((q ++ (⟨#[99]⟩ ++ r1) ++ (⟨#[44, 99]⟩ ++ r2) : ByteArray).data.toList = CL.cround o.data.toList a b) := by
                show _ = _
                have h1 := Hrl.out
                have h2 := Hji.out
                rw [app_bytes, app_bytes, app_bytes, app_bytes, Hq.out, hr1.out, hr2.out, CL.cround, if_neg (by omega), if_pos (by omega)]
                simp
              have Hsz : Hid ((q ++ (⟨#[99]⟩ ++ r1) ++ (⟨#[44, 99]⟩ ++ r2) : ByteArray).size ≤ 30000 * (j + 1)) := by
                show _ ≤ _
                have := Hqs.out
                rw [ByteArray.size_append, ByteArray.size_append, ByteArray.size_append, ByteArray.size_append]
                show _ + (1 + _) + (2 + _) ≤ _
                omega
              go_wp2_with fail
              go_roundg (go - 1)
              case measure => have := hm.out; omega
              case rel =>
                have e1 := hm.out
                exact ⟨_, j + 1, rfl, by go_num, show _ ≤ _ by omega, show _ ≤ _ by omega, by show CL.CInv _ _ _; rw [Hby.out]; exact Hs2.out, Hsz, Hb3⟩
            · have ht1 : ((j : Int) == (i : Int) + 1) = false := by simp; omega
              have Hji := Lib.hid hji
              clear hji
              by_cases hjg : i < j
              · have Hjg := Lib.hid hjg
                clear hjg
                have ht2 : decide ((j : Int) > (i : Int)) = true := by have := Hjg.out; simp; omega
                go_wp2_with fail
                have hB : b ≤ 1073741824 := Nat.le_trans hyj (by decide)
                have hdB := decimal_any b hB
                refine (hdB _).mono ?_
                rintro e w3 ⟨r2, rfl, hr2, hb3⟩
                have hz2 : r2.size ≤ 10000 := by have := dec_len b; rw [Lib.size_eq, hr2.out]; omega
                have Hb3 : Hid (Below w.heap.size w w3) := Hb2.out.trans (hb3.mono Hb2.out.size)
                have Hby : Hid ((q ++ (⟨#[99]⟩ ++ r1) ++ (⟨#[46, 99]⟩ ++ r2) : ByteArray).data.toList = CL.cround o.data.toList a b) := by
                  show _ = _
                  have h1 := Hrl.out
                  have h2 := Hji.out
                  have h3 := Hjg.out
                  rw [app_bytes, app_bytes, app_bytes, app_bytes, Hq.out, hr1.out, hr2.out, CL.cround, if_neg (by omega), if_neg (by omega)]
                  simp
                have Hsz : Hid ((q ++ (⟨#[99]⟩ ++ r1) ++ (⟨#[46, 99]⟩ ++ r2) : ByteArray).size ≤ 30000 * (j + 1)) := by
                  show _ ≤ _
                  have := Hqs.out
                  rw [ByteArray.size_append, ByteArray.size_append, ByteArray.size_append, ByteArray.size_append]
                  show _ + (1 + _) + (2 + _) ≤ _
                  omega
                go_wp2_with fail
                go_roundg (go - 1)
                case measure => have := hm.out; omega
                case rel =>
                  have e1 := hm.out
                  exact ⟨_, j + 1, rfl, by go_num, show _ ≤ _ by omega, show _ ≤ _ by omega, by show CL.CInv _ _ _; rw [Hby.out]; exact Hs2.out, Hsz, Hb3⟩
              · have ht2 : decide ((j : Int) > (i : Int)) = false := by simp; omega
                have Hjg := Lib.hid hjg
                clear hjg
                have Hby : Hid ((q ++ (⟨#[99]⟩ ++ r1) : ByteArray).data.toList = CL.cround o.data.toList a b) := by
                  show _ = _
                  have h1 := Hrl.out
                  have h2 := Hjg.out
                  rw [app_bytes, app_bytes, Hq.out, hr1.out, CL.cround, if_pos (by omega)]
                  simp
                have Hsz : Hid ((q ++ (⟨#[99]⟩ ++ r1) : ByteArray).size ≤ 30000 * (j + 1)) := by
                  show _ ≤ _
                  have := Hqs.out
                  rw [ByteArray.size_append, ByteArray.size_append]
                  show _ + (1 + _) ≤ _
                  omega
                go_wp2_with fail
                go_roundg (go - 1)
                case measure => have := hm.out; omega
                case rel =>
                  have e1 := hm.out
                  exact ⟨_, j + 1, rfl, by go_num, show _ ≤ _ by omega, show _ ≤ _ by omega, by show CL.CInv _ _ _; rw [Hby.out]; exact Hs2.out, Hsz, Hb2⟩
    · have hlt : decide ((i : Int) < (ns.length : Int)) = false := by simp; omega
      have hi0 := hi.out
      have hos2 : o.size ≤ 15000000 := by have := hos.out; omega
      have Hfin : Hid (o.data.toList = CL.catsT ns) := CL.CInv.done hcv.out (by omega)
      go_wp2_with fail
      go_ret
      exact ⟨_, rfl, Hfin, hos2, hbo.out⟩
end Go.Proofs.YtaloidnoeafgiaaGreatDoor
