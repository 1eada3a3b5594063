/- (spec.Published).Proper, zzFits6. -/
import Derived.Test.YtdmggcbbfljciaaGreatDoorPubA
import Derived.BigQuiet
import Derived.Deep.CutRange
import Derived.Deep.RegionHeld3
import Derived.Deep.LoopGhost
namespace Go.Proofs.YtdmggcbbfljciaaGreatDoor
open Go.RowKit Go.Lib

def OkA (a b : Int) (pr ip : ByteArray) : Prop := RightP a b pr ∧ b - a ≤ 200 ∧ (ip.data.toList = [] ∨ F4.Is ip.data.toList ∨ sixL ip.data.toList)
def OkH (a b h g : Int) : Prop := (h = 0 ∧ g = 0) ∨ (h ≠ 0 ∧ 1 ≤ h ∧ h ≤ g ∧ g ≤ 65535 ∧ (g - h = b - a ∨ (b - a = 0 ∧ g - h ≤ 200)))

/-- a specification's six cells -/
def C6 (V : World) (n : Nat) (x0 x1 x2 x3 x4 x5 : Value) (X : World) : Prop := X.cell? ⟨n, 0, none⟩ = some x0 ∧ X.cell? ⟨n, 1, none⟩ = some x1 ∧ X.cell? ⟨n, 2, none⟩ = some x2 ∧ X.cell? ⟨n, 3, none⟩ = some x3 ∧ X.cell? ⟨n, 4, none⟩ = some x4 ∧ X.cell? ⟨n, 5, none⟩ = some x5 ∧ Below V.heap.size V X
theorem C6.keep {X V : World} {n : Nat} {x0 x1 x2 x3 x4 x5 : Value} (l : n < V.heap.size) (h : C6 V n x0 x1 x2 x3 x4 x5 V) (hb : Below V.heap.size V X) : C6 V n x0 x1 x2 x3 x4 x5 X := by
  have k : ∀ j, X.cell? ⟨n, j, none⟩ = V.cell? ⟨n, j, none⟩ := fun j => hb.cell (p := ⟨n, j, none⟩) l
  exact ⟨(k 0).trans h.1, (k 1).trans h.2.1, (k 2).trans h.2.2.1, (k 3).trans h.2.2.2.1, (k 4).trans h.2.2.2.2.1, (k 5).trans h.2.2.2.2.2.1, hb⟩
theorem C6.new (w : World) (x0 x1 x2 x3 x4 x5 : Value) (t : TypeId) : C6 (w.alloc (.cells #[x0, x1, x2, x3, x4, x5] t)) w.heap.size x0 x1 x2 x3 x4 x5 (w.alloc (.cells #[x0, x1, x2, x3, x4, x5] t)) := by
  have h := heap_alloc_new w (.cells #[x0, x1, x2, x3, x4, x5] t)
  exact ⟨row_cell (l := [x0, x1, x2, x3, x4, x5]) h (j := 0) rfl, row_cell (l := [x0, x1, x2, x3, x4, x5]) h (j := 1) rfl, row_cell (l := [x0, x1, x2, x3, x4, x5]) h (j := 2) rfl, row_cell (l := [x0, x1, x2, x3, x4, x5]) h (j := 3) rfl, row_cell (l := [x0, x1, x2, x3, x4, x5]) h (j := 4) rfl, row_cell (l := [x0, x1, x2, x3, x4, x5]) h (j := 5) rfl, Below.refl _ _⟩
theorem bl6 {V W X : World} (hb : Below W.heap.size W X) (h : Below V.heap.size V W) : Below V.heap.size V X := h.trans (hb.mono h.size)

set_option maxRecDepth 100000 in
set_option maxHeartbeats 8000000 in
theorem proper_pub (a b : Int) (pr ip : ByteArray) (h g : Int) (hz : ip.size ≤ 140737488355328) (w : World) :
    Calls Tryz.prog 8 #[.agg #[.int .i64 a, .int .i64 b, .string pr, .string ip, .int .i64 h, .int .i64 g]] w fun e w' => Told e (OkA a b pr ip ∧ OkH a b h g) ∧ Below w.heap.size w w' := by
  have HV : Hid (Below w.heap.size w (w.alloc (.cells #[.int .i64 a, .int .i64 b, .string pr, .string ip, .int .i64 h, .int .i64 g] 25))) := (Below.refl _ _).alloc (Nat.le_refl _) _
  have HC := Lib.hid (C6.new w (.int .i64 a) (.int .i64 b) (.string pr) (.string ip) (.int .i64 h) (.int .i64 g) 25)
  have hlt : w.heap.size < (w.alloc (.cells #[.int .i64 a, .int .i64 b, .string pr, .string ip, .int .i64 h, .int .i64 g] 25)).heap.size := by simp
  go_enter Tryz.func8, Tryz.ntmps8
  go_upto_region 1 with fail
  generalize (w.alloc (.cells #[.int .i64 a, .int .i64 b, .string pr, .string ip, .int .i64 h, .int .i64 g] 25)) = V at *
  go_cut [35] from 5 to 35 (fun s35 wc => ∃ bad : Bool, s35 = .bool bad ∧ (bad = false ↔ OkA a b pr ip) ∧ Below V.heap.size V wc)
  case first =>
    obtain ⟨c0, c1, c2, c3, c4, c5, -⟩ := HC.out
    go_wp2_with fail
    refine (right_any a b pr _).mono ?_
    rintro e w2 ⟨⟨q, rfl, hq⟩, hb2⟩
    clear c0 c1 c2 c3 c4 c5
    obtain ⟨c0, c1, c2, c3, c4, c5, -⟩ := C6.keep hlt HC.out hb2
    have HB := Lib.hid hb2
    have Hq := Lib.hid hq
    clear hb2 hq
    cases q with
    | false =>
      go_wp2_with fail
      go_meet
      case rel => exact ⟨true, rfl, ⟨fun e => (by cases e), fun e => absurd (Hq.out.2 e.1) (by decide)⟩, HB.out⟩
    | true =>
    have hR := Hq.out.1 (by trivial)
    have HR : Hid (RightP a b pr) := hR
    obtain ⟨r1, r2, r3, -⟩ := hR
    by_cases hn : b - a > 200
    · have d1 : decide (b - a > 200) = true := decide_eq_true hn
      have d1n : decide (200 < b - a) = true := decide_eq_true hn
      have Hn := Lib.hid hn
      clear hn
      go_wp2_with fail
      go_meet
      case rel => exact ⟨true, rfl, ⟨fun e => (by cases e), fun e => (by have h1 := e.2.1; have h2 := Hn.out; omega)⟩, HB.out⟩
    have d1 : decide (b - a > 200) = false := decide_eq_false hn
    have d1n : decide (200 < b - a) = false := decide_eq_false (by omega)
    have Hn : Hid (b - a ≤ 200) := (show _ ≤ _ by omega)
    clear hn
    by_cases he : ip.data.toList = []
    · have hs := str_nil ip he
      have HA : Hid (OkA a b pr ip) := ⟨HR.out, Hn.out, Or.inl he⟩
      clear he
      go_wp2_with fail
      go_meet
      case rel => exact ⟨false, rfl, ⟨fun _ => HA.out, fun _ => rfl⟩, HB.out⟩
    have hs := str_some ip he
    have He := Lib.hid he
    clear he
    go_wp2_with fail
    refine (fourth_any ip hz _).mono ?_
    rintro e w3 ⟨⟨q4, rfl, hq4⟩, rfl⟩
    have Hq4 := Lib.hid hq4
    clear hq4
    cases q4 with
    | true =>
      go_wp2_with fail
      go_meet
      case rel => exact ⟨false, rfl, ⟨fun _ => ⟨HR.out, Hn.out, Or.inr (Or.inl (Hq4.out.1 (by trivial)))⟩, fun _ => rfl⟩, HB.out⟩
    | false =>
    go_wp2_with fail
    refine (sixth_any ip _).mono ?_
    rintro e w4 ⟨⟨q6, rfl, hq6⟩, rfl⟩
    have Hq6 := Lib.hid hq6
    clear hq6
    cases q6 with
    | true =>
      go_wp2_with fail
      go_meet
      case rel => exact ⟨false, rfl, ⟨fun _ => ⟨HR.out, Hn.out, Or.inr (Or.inr (Hq6.out.1 (by trivial)))⟩, fun _ => rfl⟩, HB.out⟩
    | false =>
      go_wp2_with fail
      go_meet
      case rel =>
        refine ⟨true, rfl, ⟨fun e => (by cases e), fun e => ?_⟩, HB.out⟩
        rcases e.2.2 with e | e | e
        · exact absurd e He.out
        · exact absurd (Hq4.out.2 e) (by decide)
        · exact absurd (Hq6.out.2 e) (by decide)
  case rest =>
  obtain ⟨bad, rfl, hbad, hbc⟩ := hcut
  obtain ⟨c0, c1, c2, c3, c4, c5, -⟩ := C6.keep hlt HC.out hbc
  have HB : Hid (Below w.heap.size w wc) := HV.out.trans (hbc.mono HV.out.size)
  have Hbad := Lib.hid hbad
  clear hbad hbc
  cases bad with
  | true =>
    go_wp2_with fail
    go_ret
    exact ⟨Told.f (fun e => absurd (Hbad.out.2 e.1) (by decide)), HB.out⟩
  | false =>
  have hA := Hbad.out.1 (by trivial)
  have HA := Lib.hid hA
  obtain ⟨⟨r1, r2, r3, -⟩, r4, -⟩ := hA
  by_cases h0 : h = 0
  · subst h0
    by_cases hg : g = 0
    · subst hg
      go_wp2_with fail
      go_ret
      exact ⟨Told.t ⟨HA.out, Or.inl ⟨rfl, rfl⟩⟩, HB.out⟩
    · have d1 : (g == 0) = false := by simp; exact hg
      have Hg := Lib.hid hg
      clear hg
      go_wp2_with fail
      go_ret
      refine ⟨Told.f (fun e => ?_), HB.out⟩
      rcases e.2 with e | e
      · exact Hg.out e.2
      · exact e.1 rfl
  · have d0 : (h == 0) = false := by simp; exact h0
    by_cases h1 : 1 ≤ h
    · have e1 : decide (h ≥ 1) = true := decide_eq_true h1
      have e1n : decide (1 ≤ h) = true := decide_eq_true h1
      by_cases h2 : h ≤ g
      · have e2 : decide (h ≤ g) = true := decide_eq_true h2
        by_cases h3 : g ≤ 65535
        · have e3 : decide (g ≤ 65535) = true := decide_eq_true h3
          by_cases h4 : g - h = b - a
          · have e4 : (g - h == b - a) = true := by simp; exact h4
            have HH : Hid (OkH a b h g) := Or.inr ⟨h0, h1, h2, h3, Or.inl h4⟩
            clear h0 h4
            go_wp2_with fail
            go_quiet (fail)
            go_wp2_with fail
            go_ret
            exact ⟨Told.t ⟨HA.out, HH.out⟩, below_drewN HB.out _⟩
          · have e4 : (g - h == b - a) = false := by simp; exact h4
            by_cases h5 : b - a = 0
            · have e5 : (b - a == 0) = true := by simp; exact h5
              by_cases h6 : g - h ≤ 200
              · have e6 : decide (g - h ≤ 200) = true := decide_eq_true h6
                have HH : Hid (OkH a b h g) := Or.inr ⟨h0, h1, h2, h3, Or.inr ⟨h5, h6⟩⟩
                clear h0 h4 h5
                go_wp2_with fail
                go_quiet (fail)
                go_wp2_with fail
                go_ret
                exact ⟨Told.t ⟨HA.out, HH.out⟩, below_drewN HB.out _⟩
              · have e6 : decide (g - h ≤ 200) = false := decide_eq_false h6
                have HH : Hid (¬ OkH a b h g) := by
                  rintro (e | ⟨_, _, _, _, e | e⟩)
                  · exact h0 e.1
                  · exact h4 e
                  · exact h6 e.2
                clear h0 h4 h5 h6
                go_wp2_with fail
                go_quiet (fail)
                go_wp2_with fail
                go_ret
                exact ⟨Told.f (fun e => HH.out e.2), below_drewN HB.out _⟩
            · have e5 : (b - a == 0) = false := by simp; exact h5
              have HH : Hid (¬ OkH a b h g) := by
                rintro (e | ⟨_, _, _, _, e | e⟩)
                · exact h0 e.1
                · exact h4 e
                · exact h5 e.1
              clear h0 h4 h5
              go_wp2_with fail
              go_quiet (fail)
              go_wp2_with fail
              go_ret
              exact ⟨Told.f (fun e => HH.out e.2), below_drewN HB.out _⟩
        · have e3 : decide (g ≤ 65535) = false := decide_eq_false h3
          have HH : Hid (¬ OkH a b h g) := by
            rintro (e | e)
            · exact h0 e.1
            · exact h3 e.2.2.2.1
          clear h0 h3
          go_wp2_with fail
          go_quiet (fail)
          go_wp2_with fail
          go_ret
          exact ⟨Told.f (fun e => HH.out e.2), below_drewN HB.out _⟩
      · have e2 : decide (h ≤ g) = false := decide_eq_false h2
        have HH : Hid (¬ OkH a b h g) := by
          rintro (e | e)
          · exact h0 e.1
          · exact h2 e.2.2.1
        clear h0 h2
        go_wp2_with fail
        go_quiet (fail)
        go_wp2_with fail
        go_ret
        exact ⟨Told.f (fun e => HH.out e.2), below_drewN HB.out _⟩
    · have e1 : decide (h ≥ 1) = false := decide_eq_false h1
      have e1n : decide (1 ≤ h) = false := decide_eq_false h1
      have HH : Hid (¬ OkH a b h g) := by
        rintro (e | e)
        · exact h0 e.1
        · exact h1 e.2.1
      clear h0 h1
      go_wp2_with fail
      go_quiet (fail)
      go_wp2_with fail
      go_ret
      exact ⟨Told.f (fun e => HH.out e.2), below_drewN HB.out _⟩

set_option maxRecDepth 100000 in
set_option maxHeartbeats 2000000 in
theorem fits6 (a b : Int) (pr ip : ByteArray) (h g : Int) (w : World) :
    Calls Tryz.prog 7 #[.agg #[.int .i64 a, .int .i64 b, .string pr, .string ip, .int .i64 h, .int .i64 g]] w fun e w' => Told e (pr.size ≤ 2147483647 ∧ ip.size ≤ 2147483647) ∧ Below w.heap.size w w' := by
  have HV : Hid (Below w.heap.size w (w.alloc (.cells #[.int .i64 a, .int .i64 b, .string pr, .string ip, .int .i64 h, .int .i64 g] 25))) := (Below.refl _ _).alloc (Nat.le_refl _) _
  have HC := Lib.hid (C6.new w (.int .i64 a) (.int .i64 b) (.string pr) (.string ip) (.int .i64 h) (.int .i64 g) 25)
  have hlt : w.heap.size < (w.alloc (.cells #[.int .i64 a, .int .i64 b, .string pr, .string ip, .int .i64 h, .int .i64 g] 25)).heap.size := by simp
  go_enter Tryz.func7, Tryz.ntmps7
  go_wp2_with fail
  refine (fits7 a b pr _).mono ?_
  rintro e w2 ⟨⟨q, rfl, hq⟩, hb2⟩
  obtain ⟨c0, c1, c2, c3, c4, c5, -⟩ := C6.keep hlt HC.out hb2
  have HB : Hid (Below w.heap.size w w2) := HV.out.trans (hb2.mono HV.out.size)
  have Hq := Lib.hid hq
  clear hb2 hq HC HV hlt
  cases q with
  | false =>
    go_wp2_with fail
    go_ret
    exact ⟨Told.f (fun e => absurd (Hq.out.2 e.1) (by decide)), HB.out⟩
  | true =>
    have H1 := Lib.hid (Hq.out.1 (by trivial))
    by_cases hi : ip.size ≤ 2147483647
    · have d1 : decide ((ip.size : Int) > 2147483647) = false := by simp; omega
      have H2 := Lib.hid hi
      clear hi
      go_wp2_with fail
      go_ret
      exact ⟨Told.t ⟨H1.out, H2.out⟩, HB.out⟩
    · have d1 : decide ((ip.size : Int) > 2147483647) = true := by simp; omega
      have H2 := Lib.hid hi
      clear hi
      go_wp2_with fail
      go_ret
      exact ⟨Told.f (fun e => H2.out e.2), HB.out⟩

/-- a proper specification's data -/
theorem pub_of {a b : Int} {pr ip : ByteArray} {h g : Int} (hA : OkA a b pr ip) (hH : OkH a b h g) : ∃ p : Pub, p.Ok ∧ a = (p.a : Int) ∧ b = (p.b : Int) ∧ pr = tx p.proto ∧ ip = tx p.ip ∧ h = (p.h : Int) ∧ g = (p.g : Int) := by
  obtain ⟨⟨r1, r2, r3, r4⟩, r5, r6⟩ := hA
  have hh : 0 ≤ h ∧ 0 ≤ g := by
    rcases hH with ⟨e1, e2⟩ | ⟨_, e1, e2, _⟩ <;> omega
  refine ⟨⟨a.toNat, b.toNat, pr.data.toList, ip.data.toList, h.toNat, g.toNat⟩, ⟨?_, ?_, ?_, r4, ?_, r6, ?_⟩, ?_, ?_, (tx_self pr).symm, (tx_self ip).symm, ?_, ?_⟩
  · show 1 ≤ a.toNat; omega
  · show a.toNat ≤ b.toNat; omega
  · show b.toNat ≤ 65535; omega
  · show b.toNat - a.toNat ≤ 200; omega
  · show (h.toNat = 0 ∧ g.toNat = 0) ∨ (1 ≤ h.toNat ∧ h.toNat ≤ g.toNat ∧ g.toNat ≤ 65535 ∧ (g.toNat - h.toNat = b.toNat - a.toNat ∨ (b.toNat = a.toNat ∧ g.toNat - h.toNat ≤ 200)))
    rcases hH with ⟨e1, e2⟩ | ⟨_, e1, e2, e3, e4⟩
    · left; omega
    · right
      refine ⟨by omega, by omega, by omega, ?_⟩
      rcases e4 with e4 | e4
      · left; omega
      · right; omega
  · show a = (a.toNat : Int); omega
  · show b = (b.toNat : Int); omega
  · show h = (h.toNat : Int); omega
  · show g = (g.toNat : Int); omega
end Go.Proofs.YtdmggcbbfljciaaGreatDoor

/- (spec.Published).Text. -/
namespace Go.Proofs.YtdmggcbbfljciaaGreatDoor
open Go.RowKit Go.Lib

/-- a specification's value -/
abbrev Pub.v (p : Pub) : Value := .agg #[.int .i64 p.a, .int .i64 p.b, .string (tx p.proto), .string (tx p.ip), .int .i64 p.h, .int .i64 p.g]

theorem add_tx (x y : List UInt8) (h : x.length + y.length ≤ 1000000) (w : World) : (Op.stringOp .add (tx x) (tx y)).run Tryz.prog w = .ok (.string (tx (x ++ y))) w := by
  have h1 := run_string_add_sum (P := Tryz.prog) w (tx x) (tx y) (by rw [tx_size, tx_size]; omega)
  rw [h1, tx_app]

set_option maxRecDepth 100000 in
set_option maxHeartbeats 8000000 in
theorem pub_text (p : Pub) (hp : p.Ok) (w : World) :
    Calls Tryz.prog 11 #[.agg #[.int .i64 p.a, .int .i64 p.b, .string (tx p.proto), .string (tx p.ip), .int .i64 p.h, .int .i64 p.g]] w fun e w' => e = .returned (.string (tx p.text)) ∧ Below w.heap.size w w' := by
  have HV : Hid (Below w.heap.size w (w.alloc (.cells #[.int .i64 p.a, .int .i64 p.b, .string (tx p.proto), .string (tx p.ip), .int .i64 p.h, .int .i64 p.g] 25))) := (Below.refl _ _).alloc (Nat.le_refl _) _
  have HC := Lib.hid (C6.new w (.int .i64 p.a) (.int .i64 p.b) (.string (tx p.proto)) (.string (tx p.ip)) (.int .i64 p.h) (.int .i64 p.g) 25)
  have hlt : w.heap.size < (w.alloc (.cells #[.int .i64 p.a, .int .i64 p.b, .string (tx p.proto), .string (tx p.ip), .int .i64 p.h, .int .i64 p.g] 25)).heap.size := by simp
  have Hp := Lib.hid hp
  have b9 := hp.b9
  have a9 : p.a ≤ 65535 := Nat.le_trans hp.ab b9
  have hpl : p.proto.length ≤ 4 := by rcases hp.pr with h | h | h <;> rw [h] <;> decide
  have hnl := numT_len' p.a p.b a9 b9
  have e47 : (⟨#[47]⟩ : ByteArray) = tx [47] := rfl
  have ha1 := add_tx (numT p.a p.b) [47] (by simp; omega)
  have ha2 := add_tx (numT p.a p.b ++ [47]) p.proto (by simp; omega)
  have eo : numT p.a p.b ++ [47] ++ p.proto = p.outT := by unfold Pub.outT; simp
  rw [eo] at ha2
  rw [← e47] at ha1
  have Hn := Lib.hid (numbers_any p.a p.b a9 b9)
  have zo : (tx p.outT).size ≤ 131080 := by rw [tx_size]; exact Pub.out_len hp
  have zh : (tx p.hostT).size ≤ 131073 := by rw [tx_size]; exact Pub.host_len hp
  have zi : (tx p.ip).size ≤ 15 := by rw [tx_size]; exact (Pub.ip_len hp).1
  clear hp hnl eo e47
  go_enter Tryz.func11, Tryz.ntmps11
  go_upto_region 1 with fail
  generalize (w.alloc (.cells #[.int .i64 p.a, .int .i64 p.b, .string (tx p.proto), .string (tx p.ip), .int .i64 p.h, .int .i64 p.g] 25)) = V at *
  go_cut [3] from 6 to 17 (fun s3 wc => s3 = .string (tx p.outT) ∧ Below V.heap.size V wc)
  case first =>
    obtain ⟨c0, c1, c2, c3, c4, c5, HB3⟩ := HC.out
    go_region_held3 (fun W => W.cell? ⟨w.heap.size, 0, none⟩ = some (.int .i64 p.a) ∧ W.cell? ⟨w.heap.size, 1, none⟩ = some (.int .i64 p.b) ∧ W.cell? ⟨w.heap.size, 2, none⟩ = some (.string (tx p.proto)) ∧ W.cell? ⟨w.heap.size, 3, none⟩ = some (.string (tx p.ip)) ∧ W.cell? ⟨w.heap.size, 4, none⟩ = some (.int .i64 p.h) ∧ W.cell? ⟨w.heap.size, 5, none⟩ = some (.int .i64 p.g) ∧ Below V.heap.size V W)
      (first | exact C6.keep hlt HC.out HB3 | exact C6.keep hlt HC.out HB3.drew)
      (first | (go_at_call 28; (with_reducible refine (Hn.out _).mono ?_); rintro e w4 ⟨rfl, hb4⟩; have HB3 := (by first | exact bl6 hb4 HB3 | exact bl6 hb4 HB3.drew : Below V.heap.size V w4); obtain ⟨c0, c1, c2, c3, c4, c5, -⟩ := C6.keep hlt HC.out HB3))
    all_goals go_wp2_with fail
    all_goals go_meet
    all_goals (case rel => exact ⟨rfl, HB3⟩)
  case rest =>
  obtain ⟨rfl, hbc⟩ := hcut
  obtain ⟨c0, c1, c2, c3, c4, c5, -⟩ := C6.keep hlt HC.out hbc
  have HB := Lib.hid hbc
  obtain ⟨X, hww⟩ : ∃ X, X = wc := ⟨_, rfl⟩
  subst hww
  clear hbc ha1 ha2 Hn
  obtain ⟨h9, g9, _⟩ := (show p.h ≤ 65535 ∧ p.g ≤ 65535 ∧ True from by rcases Hp.out.host with ⟨h1, h2⟩ | ⟨h1, h2, h3, _⟩ <;> exact ⟨by omega, by omega, trivial⟩)
  go_upto_region 3 with fail
  go_cut [20] from 18 to 20 (fun s20 wc => s20 = .bool (decide (p.h ≠ 0)) ∧ wc = X)
  case first =>
    by_cases h0 : p.h = 0
    · have d : decide ((p.h : Int) > 0) = false := decide_eq_false (by omega)
      have dn : decide (0 < p.h) = false := decide_eq_false (by omega)
      have D : Hid (decide (p.h ≠ 0) = false) := decide_eq_false (fun e => e h0)
      clear h0
      go_wp2_with fail
      go_meet
      case rel => exact ⟨by rw [D.out], rfl⟩
    · have d : decide ((p.h : Int) > 0) = true := decide_eq_true (by omega)
      have dn : decide (0 < p.h) = true := decide_eq_true (by omega)
      have D : Hid (decide (p.h ≠ 0) = true) := decide_eq_true h0
      clear h0
      go_wp2_with fail
      go_meet
      case rel => exact ⟨by rw [D.out], rfl⟩
  case rest =>
  obtain ⟨rfl, hww⟩ := hcut
  subst hww
  obtain ⟨X, hww⟩ : ∃ X, X = wc := ⟨_, rfl⟩
  subst hww
  go_upto_if 20 with fail
  go_cut [4] from 18 to 25 (fun s4 wc => s4 = .string (tx p.hostT) ∧ Below X.heap.size X wc)
  case first =>
    by_cases h0 : p.h = 0
    · have e1 : p.hostT = [] := p.host_nil.2 h0
      rw [decide_eq_false (fun e => e h0)]
      have E1 := Lib.hid e1
      clear e1
      go_wp2_with fail
      go_meet
      case rel => exact ⟨by rw [E1.out]; rfl, Below.refl _ _⟩
    · have e1 : p.hostT = numT p.h p.g := by unfold Pub.hostT; rw [if_neg h0]
      rw [decide_eq_true h0]
      have E1 := Lib.hid e1
      clear h0 e1
      go_wp2_with fail
      refine (numbers_any p.h p.g h9 g9 _).mono ?_
      rintro e w5 ⟨rfl, hb5⟩
      go_wp2_with fail
      go_meet
      case rel => exact ⟨by rw [E1.out], hb5⟩
  case rest =>
  obtain ⟨rfl, hbc⟩ := hcut
  have HB2 : Hid (Below V.heap.size V wc) := bl6 hbc HB.out
  have HW : Hid (Below w.heap.size w wc) := HV.out.trans (HB2.out.mono HV.out.size)
  clear c0 c1 c2 c3 c4 c5 hbc
  obtain ⟨c0, c1, c2, c3, c4, c5, -⟩ := C6.keep hlt HC.out HB2.out
  by_cases h0 : p.ip = []
  · have hs := str_nil (tx p.ip) h0
    by_cases h1 : p.h = 0
    · have hs1 := str_nil (tx p.hostT) (p.host_nil.2 h1)
      have Ht := Lib.hid (Pub.text_out h0 h1)
      clear h0 h1
      go_wp2_with fail
      go_ret
      exact ⟨by rw [Ht.out]; rfl, HW.out⟩
    · have hs1 := str_some (tx p.hostT) (fun e => h1 (p.host_nil.1 e))
      have Ht := Lib.hid (Pub.text_host h0 h1)
      clear h0 h1
      go_wp2_with fail
      go_ret
      refine ⟨?_, HW.out⟩
      rw [Ht.out]
      show Ending.returned (.string (tx p.hostT ++ ⟨#[58]⟩ ++ tx p.outT)) = _
      rw [tx_of (show (tx p.hostT ++ (⟨#[58]⟩ : ByteArray) ++ tx p.outT).data.toList = p.hostT ++ 58 :: p.outT from by rw [app_bytes, app_bytes, tx_list, tx_list]; simp)]
  · have hs := str_some (tx p.ip) h0
    have Ht := Lib.hid (Pub.text_ip h0)
    by_cases h6 : sixL p.ip
    · have e6 : p.ipT = 91 :: p.ip ++ [93] := by unfold Pub.ipT; rw [if_pos h6]
      have hs2 := str_some ((⟨#[91]⟩ : ByteArray) ++ tx p.ip ++ (⟨#[93]⟩ : ByteArray)) (by rw [app_bytes, app_bytes]; simp)
      have zi2 : ((⟨#[91]⟩ : ByteArray) ++ tx p.ip ++ (⟨#[93]⟩ : ByteArray)).size ≤ 17 := by
        rw [ByteArray.size_append, ByteArray.size_append]
        show 1 + _ + 1 ≤ _
        omega
      have E6 := Lib.hid e6
      have H6 := Lib.hid h6
      clear h0 h6 e6
      go_wp2_with fail
      refine (sixth_any (tx p.ip) _).mono ?_
      rintro e w6 ⟨⟨q, rfl, hq⟩, rfl⟩
      obtain rfl : q = true := hq.2 H6.out
      clear hq
      go_wp2_with fail
      go_ret
      refine ⟨?_, HW.out⟩
      rw [Ht.out, E6.out]
      show Ending.returned (.string ((⟨#[91]⟩ : ByteArray) ++ tx p.ip ++ (⟨#[93]⟩ : ByteArray) ++ ⟨#[58]⟩ ++ tx p.hostT ++ ⟨#[58]⟩ ++ tx p.outT)) = _
      rw [tx_of (show ((⟨#[91]⟩ : ByteArray) ++ tx p.ip ++ (⟨#[93]⟩ : ByteArray) ++ (⟨#[58]⟩ : ByteArray) ++ tx p.hostT ++ (⟨#[58]⟩ : ByteArray) ++ tx p.outT).data.toList = 91 :: p.ip ++ [93] ++ 58 :: (p.hostT ++ 58 :: p.outT) from by
        rw [app_bytes, app_bytes, app_bytes, app_bytes, app_bytes, app_bytes, tx_list, tx_list, tx_list]; simp)]
    · have e6 : p.ipT = p.ip := by unfold Pub.ipT; rw [if_neg h6]
      have E6 := Lib.hid e6
      have H6 := Lib.hid h6
      clear h0 h6 e6
      go_wp2_with fail
      refine (sixth_any (tx p.ip) _).mono ?_
      rintro e w6 ⟨⟨q, rfl, hq⟩, rfl⟩
      obtain rfl : q = false := by
        cases q with
        | false => rfl
        | true => exact absurd (hq.1 rfl) H6.out
      clear hq
      go_wp2_with fail
      go_ret
      refine ⟨?_, HW.out⟩
      rw [Ht.out, E6.out]
      show Ending.returned (.string (tx p.ip ++ ⟨#[58]⟩ ++ tx p.hostT ++ ⟨#[58]⟩ ++ tx p.outT)) = _
      rw [tx_of (show (tx p.ip ++ (⟨#[58]⟩ : ByteArray) ++ tx p.hostT ++ (⟨#[58]⟩ : ByteArray) ++ tx p.outT).data.toList = p.ip ++ 58 :: (p.hostT ++ 58 :: p.outT) from by
        rw [app_bytes, app_bytes, app_bytes, app_bytes, tx_list, tx_list, tx_list]; simp)]
end Go.Proofs.YtdmggcbbfljciaaGreatDoor

/- laws.mappings: two lists of the same mappings. -/
namespace Go.Proofs.YtdmggcbbfljciaaGreatDoor
open Go.RowKit Go.Lib

set_option maxRecDepth 100000 in
set_option maxHeartbeats 4000000 in
theorem mappings_same (g c g' c' : Nat) (l : List M3) (w : World) (h : M3At w g l) (h' : M3At w g' l) (hl : l.length ≤ 5000) :
    Calls Tryz.prog 12 #[.slice (some ⟨g, 0, none⟩) l.length c, .slice (some ⟨g', 0, none⟩) l.length c'] w fun e w' => e = .returned (.bool true) ∧ Below w.heap.size w w' := by
  have H := Lib.hid h
  have H' := Lib.hid h'
  obtain ⟨L, hL⟩ : ∃ L, L = l.length := ⟨_, rfl⟩
  have HL := Lib.hid hL
  rw [← hL]
  rw [← hL] at hl
  have hne : ((L : Int) != (L : Int)) = false := by simp
  clear h h' hL
  go_enter Tryz.func12, Tryz.ntmps12
  go_wp2_with fail
  go_loopg [13] (L + 1) (fun m iv wr => ∃ i : Nat, iv = .int .i64 i ∧ Hid (m + i = L + 1) ∧ i ≤ L ∧ Hid (Below w.heap.size w wr))
  case atStart => exact ⟨0, rfl, rfl, Nat.zero_le _, Below.refl _ _⟩
  case round =>
    obtain ⟨i, rfl, hm, hi, hb⟩ := hrel
    by_cases hin : i < L
    · have hlt : decide ((i : Int) < (L : Int)) = true := decide_eq_true (by omega)
      have p1 : (0 : Int) ≤ (i : Int) := by omega
      have p2 : (i : Int) < (L : Int) := by omega
      obtain ⟨c0, c1, c2⟩ := (H.out.below hb.out) i (by have := HL.out; omega)
      obtain ⟨d0, d1, d2⟩ := (H'.out.below hb.out) i (by have := HL.out; omega)
      generalize tx (l.getD i ([], [], [])).1 = x0 at *
      generalize tx (l.getD i ([], [], [])).2.1 = x1 at *
      generalize tx (l.getD i ([], [], [])).2.2 = x2 at *
      go_wp2
      go_quiet (fail)
      go_wp2
      go_roundg (gk - 1)
      case measure => have := hm.out; omega
      case rel =>
        have e1 := hm.out
        exact ⟨i + 1, by go_num, show _ = _ by omega, by omega, below_drewN hb.out _⟩
    · have hlt : decide ((i : Int) < (L : Int)) = false := decide_eq_false (by omega)
      go_wp2
      go_ret
      exact ⟨rfl, hb.out⟩
end Go.Proofs.YtdmggcbbfljciaaGreatDoor

/- splitHostPort at an address in brackets with a colon behind it. -/
namespace Go.Proofs.YtdmggcbbfljciaaGreatDoor
open Go.RowKit Go.Lib

set_option maxRecDepth 100000 in
theorem contains_miss (s : ByteArray) (c : UInt8) (h : c ∉ s.data.toList) (hl : s.size ≤ 1000000) (w : World) :
    Calls Tryz.prog 64 #[.string s, .string ⟨#[c]⟩] w fun e w' => e = .returned (.bool false) ∧ w' = w := by
  have H := Lib.hid (nindex_miss s c h (by omega))
  clear h
  go_enter Tryz.func64, Tryz.ntmps64
  go_wp2_with fail
  refine (H.out _).mono ?_
  rintro e w2 ⟨rfl, rfl⟩
  go_wp2_with fail
  go_ret
  exact ⟨rfl, rfl⟩

set_option maxRecDepth 100000 in
theorem contains_hit (s : ByteArray) (c : UInt8) (a b : List UInt8) (hs : s.data.toList = a ++ c :: b) (ha : c ∉ a) (hl : s.size ≤ 1000000) (w : World) :
    Calls Tryz.prog 64 #[.string s, .string ⟨#[c]⟩] w fun e w' => e = .returned (.bool true) ∧ w' = w := by
  have H := Lib.hid (nindex_hit s c a b hs ha (by omega))
  have d : decide ((a.length : Int) ≥ 0) = true := decide_eq_true (by omega)
  have dn : decide ((0 : Int) ≤ (a.length : Int)) = true := decide_eq_true (by omega)
  clear hs ha
  go_enter Tryz.func64, Tryz.ntmps64
  go_wp2_with fail
  refine (H.out _).mono ?_
  rintro e w2 ⟨rfl, rfl⟩
  go_wp2_with fail
  go_ret
  exact ⟨rfl, rfl⟩

set_option maxRecDepth 100000 in
set_option maxHeartbeats 8000000 in
theorem splitHostPort_six (x : List UInt8) (h91 : (91 : UInt8) ∉ x) (h93 : (93 : UInt8) ∉ x) (hx : x.length ≤ 20) (t : ByteArray) (ht : t.data.toList = 91 :: x ++ [93, 58]) (w : World) :
    Calls Tryz.prog 44 #[.string t] w fun e w' => e = .returned (.tuple #[.string (tx x), .string ⟨#[]⟩, .nilIface]) ∧ Below w.heap.size w w' := by
  obtain ⟨n, hn⟩ : ∃ n, n = x.length := ⟨_, rfl⟩
  have hz : t.size = n + 3 := by rw [Lib.size_eq, ht]; simp <;> omega
  have hn20 : n ≤ 20 := by omega
  have hl2 : n + 2 < t.size := by omega
  have hl0 : 0 < t.size := by omega
  have g0 : (t[0]'hl0).toNat = 91 := by rw [byte_get t 0 hl0, ht]; rfl
  have g2 : (t[n + 2]'hl2).toNat = 58 := by
    rw [byte_get t (n + 2) hl2, ht]
    have e : (91 :: x ++ [93, 58] : List UInt8).getD (n + 2) 0 = 58 := by
      simp [List.getD, hn]
    rw [e]; rfl
  have q0 : (((t[0]'hl0).toNat : Int) == 91) = true := by rw [g0]; rfl
  have q2 : (((t[n + 2]'hl2).toNat : Int) == 58) = true := by rw [g2]; rfl
  have Hi := Lib.hid (nindex_hit t 93 (91 :: x) [58] (by rw [ht]; first | done | simp) (by intro e; rcases List.mem_cons.1 e with e | e; cases e; exact h93 e) (by omega))
  have el : (91 :: x : List UInt8).length = n + 1 := by simp [hn]
  rw [el] at Hi
  have x1 : t.extract 1 (n + 1) = tx x := by
    apply bytes_ext
    rw [tx_list, Lib.extract_data, ht]
    simp [hn]
  have x2 : (t.extract 1 (n + 3)).data.toList = x ++ [93, 58] := by rw [← hz, Lib.extract_to_end, ht]; simp
  have x3 : (t.extract (n + 2) (n + 3)).data.toList = [58] := by rw [← hz, Lib.extract_to_end, ht]; simp [hn]
  have x4 : t.extract (n + 3) (n + 3) = (⟨#[]⟩ : ByteArray) := by
    apply bytes_ext
    rw [← hz, Lib.extract_to_end, hz, ht]; simp [hn]
  have Hc1 := Lib.hid (contains_miss (t.extract 1 (n + 3)) 91 (by rw [x2]; intro e; rcases List.mem_append.1 e with e | e; exact h91 e; revert e; decide) (by rw [Lib.size_eq, x2]; simp; omega))
  have Hc2 := Lib.hid (contains_miss (t.extract (n + 2) (n + 3)) 93 (by rw [x3]; decide) (by rw [Lib.size_eq, x3]; decide))
  clear ht h91 h93 hn el x2 x3
  go_enter Tryz.func44, Tryz.ntmps44
  go_wp2
  refine wp_loop_rounds 1 ?_
  rw [rounds_succ]
  go_wp2_with fail
  refine (Hi.out _).mono ?_
  rintro e w2 ⟨rfl, rfl⟩
  go_wp2_with fail
  refine (Hc1.out _).mono ?_
  rintro e w2 ⟨rfl, rfl⟩
  go_wp2_with fail
  refine (Hc2.out _).mono ?_
  rintro e w2 ⟨rfl, rfl⟩
  go_wp2_with fail
  go_quiet (fail)
  go_wp2_with fail
  go_ret3
  exact ⟨by show Ending.returned (.tuple #[.string (tx x), .string (t.extract (n + 3) (n + 3)), .nilIface]) = _; rw [x4], below_drewN (Below.refl _ _) _⟩
end Go.Proofs.YtdmggcbbfljciaaGreatDoor
