/- netip.ParseAddr at four figures' groups. -/
import Derived.Test.YtdmggcbbfljciaaGreatDoorPubA
import Derived.Laws.ResultCell
import Derived.BigQuiet
import Derived.Laws.Rows
import Derived.Deep.RegionHeld3
import Derived.Deep.CutRange
namespace Go.Proofs.YtdmggcbbfljciaaGreatDoor
open Go.RowKit Go.Lib

/-- four bytes in a block -/
def Row4 (W : World) (b : Nat) : Prop := ∃ x0 x1 x2 x3 : Int, W.heap[b]? = some (.cells #[.int .u8 x0, .int .u8 x1, .int .u8 x2, .int .u8 x3] 188 (0, 0))

theorem Row4.cell {W : World} {b : Nat} (h : Row4 W b) (k : Nat) (hk : k < 4) : (∃ x : Int, W.cell? ⟨b, k, none⟩ = some (.int .u8 x)) ∧ W.frozen? ⟨b, k, none⟩ = false := by
  obtain ⟨x0, x1, x2, x3, h⟩ := h
  refine ⟨?_, row_free (l := [.int .u8 x0, .int .u8 x1, .int .u8 x2, .int .u8 x3]) h k⟩
  match k, hk with
  | 0, _ => exact ⟨_, row_cell (l := [.int .u8 x0, .int .u8 x1, .int .u8 x2, .int .u8 x3]) h (j := 0) rfl⟩
  | 1, _ => exact ⟨_, row_cell (l := [.int .u8 x0, .int .u8 x1, .int .u8 x2, .int .u8 x3]) h (j := 1) rfl⟩
  | 2, _ => exact ⟨_, row_cell (l := [.int .u8 x0, .int .u8 x1, .int .u8 x2, .int .u8 x3]) h (j := 2) rfl⟩
  | 3, _ => exact ⟨_, row_cell (l := [.int .u8 x0, .int .u8 x1, .int .u8 x2, .int .u8 x3]) h (j := 3) rfl⟩

theorem Row4.set {W : World} {b : Nat} (h : Row4 W b) (k : Nat) (hk : k < 4) (v : Int) : Row4 (W.setCell ⟨b, k, none⟩ (.int .u8 v)) b := by
  obtain ⟨x0, x1, x2, x3, h⟩ := h
  unfold Row4
  rw [heap_setCell_same _ _ _ _ _ _ h]
  match k, hk with
  | 0, _ => exact ⟨v, x1, x2, x3, rfl⟩
  | 1, _ => exact ⟨x0, v, x2, x3, rfl⟩
  | 2, _ => exact ⟨x0, x1, v, x3, rfl⟩
  | 3, _ => exact ⟨x0, x1, x2, v, rfl⟩

theorem BelowX.setc {B b : Nat} {w w' : World} (h : BelowX B b w w') (o : Nat) (u : Value) : BelowX B b w (w'.setCell ⟨b, o, none⟩ u) :=
  h.trans ⟨rfl, rfl, rfl, by simp [World.setCell], fun k _ hkb => Below.heap_setCell _ _ _ _ hkb⟩

set_option maxRecDepth 100000 in
set_option maxHeartbeats 8000000 in
theorem fields_ok (s : ByteArray) (h : F4.Is s.data.toList) (b : Nat) (w : World) (hr : Row4 w b) :
    Calls Tryz.prog 117 #[.string s, .int .i64 0, .int .i64 s.size, .slice (some ⟨b, 0, none⟩) 4 4] w fun e w' => e = .returned .nilIface ∧ Hid (Row4 w' b) ∧ Hid (BelowX w.heap.size b w w') := by
  have H := Lib.hid h
  have Hr := Lib.hid hr
  have hsz : s.size ≤ 15 := by rw [Lib.size_eq]; exact h.len
  have HL : Hid (s.size + 0 = s.data.toList.length) := Lib.size_eq s
  have hex : s.extract 0 s.size = s := by
    apply bytes_ext
    rw [Lib.extract_to_end]; rfl
  clear h hr
  go_enter Tryz.func117, Tryz.ntmps117
  go_wp2
  go_loopg [9, 10, 11, 13] (s.size + 1) (fun m nv kv dv iv wr => ∃ (n k d i : Nat), nv = .int .i64 n ∧ kv = .int .i64 k ∧ dv = .int .i64 d ∧ iv = .int .i64 i ∧ Hid (m + i = s.size + 1) ∧ Hid (i ≤ s.size) ∧ Hid (F4.At s.data.toList i n (k + 1) d) ∧ n ≤ 255 ∧ d ≤ 3 ∧ k ≤ 3 ∧ Hid (Row4 wr b) ∧ Hid (BelowX w.heap.size b w wr))
  case atStart => exact ⟨0, 0, 0, 0, rfl, rfl, rfl, rfl, rfl, Nat.zero_le _, F4.At.zero _, by omega, by omega, by omega, Hr.out, BelowX.refl _ _ _⟩
  case round =>
    obtain ⟨n, k, d, i, rfl, rfl, rfl, rfl, hm, hi, hat, hn, hd3, hk3, hrow, hbel⟩ := hrel
    by_cases hin : i < s.size
    · have hlt : decide ((i : Int) < (s.size : Int)) = true := by simp; omega
      have Hx : Hid ((s.data.toList.getD i 0).toNat = (s[i]'hin).toNat) := (byte_get s i hin).symm
      have hil : i < s.data.toList.length := by rw [← HL.out]; exact hin
      have hc256 : (s[i]'hin).toNat < 256 := (s[i]'hin).toNat_lt
      rcases H.out.next hat.out hil with ⟨h1, h2, h3, h4, h5⟩ | ⟨h1, h2, h3, h4, h5⟩
      · -- a point
        have e46 : (s[i]'hin).toNat = 46 := Hx.out.symm.trans h1
        have b1 : decide (((s[i]'hin).toNat : Int) ≥ 48) = false := by simp; omega
        have b1n : decide (48 ≤ (s[i]'hin).toNat) = false := decide_eq_false (by omega)
        have b2 : (((s[i]'hin).toNat : Int) == 46) = true := by simp; omega
        have hi0 : i ≠ 0 := by
          rintro rfl
          have := F4.At.inj hat.out (F4.At.zero _)
          omega
        have b3 : ((i : Int) == 0) = false := by simp; omega
        have b4 : ((i : Int) == (s.size : Int) - 1) = false := by
          have := HL.out
          simp; omega
        obtain ⟨j, rfl⟩ : ∃ j, i = j + 1 := ⟨i - 1, by omega⟩
        have hj : j < s.size := by omega
        have b3' : ((j : Int) + 1 == 0) = false := by simp; omega
        have b4' : ((j : Int) + 1 == (s.size : Int) - 1) = false := by
          have := HL.out
          simp; omega
        have b5 : ((s[j]'hj).toNat : Int) ≠ 46 := by
          have h6 := F4.At.digits hat.out (by omega) h2
          have h7 := byte_get s j hj
          intro e
          apply h6
          rw [← h7]; omega
        have b5b : (((s[j]'hj).toNat : Int) == 46) = false := by simp; omega
        have ej : ((j + 1 : Nat) : Int) - 1 = (j : Int) := by omega
        have b6 : ((k : Int) == 3) = false := by simp; omega
        have k0 : (0 : Int) ≤ (k : Int) := by omega
        have k4 : (k : Int) < 4 := by omega
        have hw8 : IntKind.u8.wrap (n : Int) = (n : Int) := by rw [IntKind.wrap_u8]; omega
        obtain ⟨⟨x, hx⟩, hf⟩ := hrow.out.cell k (by omega)
        have H5 : Hid (F4.At s.data.toList (j + 1 + 1) 0 (k + 1 + 1) 0) := h5
        clear h1 h2 h4 h5 hi0 hil
        go_wp2
        go_roundg (gk - 1)
        case measure => have := hm.out; have := hi.out; omega
        case rel =>
          have e1 := hm.out
          exact ⟨0, k + 1, 0, j + 1 + 1, rfl, by go_num, rfl, by go_num, show _ = _ by omega, show _ ≤ _ by omega, H5, by omega, by omega, by omega, hrow.out.set k (by omega) _, hbel.out.setc k _⟩
      · -- a figure
        have e48 : 48 ≤ (s[i]'hin).toNat := Nat.le_trans h1 (Nat.le_of_eq Hx.out)
        have e57 : (s[i]'hin).toNat ≤ 57 := Nat.le_trans (Nat.le_of_eq Hx.out.symm) h2
        have h4' : 10 * n + ((s[i]'hin).toNat - 48) ≤ 255 := by
          have e := Hx.out
          generalize (s.data.toList.getD i 0).toNat = y at *
          omega
        have H5 : Hid (F4.At s.data.toList (i + 1) (10 * n + ((s[i]'hin).toNat - 48)) (k + 1) (d + 1)) := by
          have e := Hx.out
          show F4.At _ _ _ _ _
          rw [← show (s.data.toList.getD i 0).toNat = _ from e]
          exact h5
        have b1 : decide (((s[i]'hin).toNat : Int) ≥ 48) = true := by simp; omega
        have b2 : decide (((s[i]'hin).toNat : Int) ≤ 57) = true := by simp; omega
        have b6 : decide ((n : Int) * 10 + ((s[i]'hin).toNat : Int) - 48 > 255) = false := by simp; omega
        have b6n : (n : Int) * 10 + ((s[i]'hin).toNat : Int) - 48 ≤ 255 := by omega
        have Hl := Lib.hid (H5.out.len hil)
        clear h1 h2 h4 h5 hil
        by_cases hd1 : d = 1
        · subst hd1
          have hn0 : ((n : Int) == 0) = false := by
            have : n ≠ 0 := fun e => h3 ⟨by omega, e⟩
            simp; omega
          clear h3
          go_wp2
          go_roundg (gk - 1)
          case measure => have := hm.out; have := hi.out; omega
          case rel =>
            have e1 := hm.out
            have e3 := Hl.out
            exact ⟨10 * n + ((s[i]'hin).toNat - 48), k, 1 + 1, i + 1, (by congr 1; omega), rfl, by go_num, by go_num, show _ = _ by omega, show _ ≤ _ by omega, H5, by omega, by omega, by omega, hrow.out, hbel.out⟩
        · have b7 : ((d : Int) == 1) = false := by simp; omega
          clear h3
          go_wp2
          go_roundg (gk - 1)
          case measure => have := hm.out; have := hi.out; omega
          case rel =>
            have e1 := hm.out
            have e3 := Hl.out
            exact ⟨10 * n + ((s[i]'hin).toNat - 48), k, d + 1, i + 1, (by congr 1; omega), rfl, by go_num, by go_num, show _ = _ by omega, show _ ≤ _ by omega, H5, by omega, by omega, by omega, hrow.out, hbel.out⟩
    · have hlt : decide ((i : Int) < (s.size : Int)) = false := by simp; omega
      have hk : k = 3 := by
        have e : i = s.data.toList.length := by have := hi.out; have := HL.out; omega
        have h1 := hat.out
        rw [e] at h1
        have := (f4_told h1).1 H.out
        omega
      subst hk
      have hw8 : IntKind.u8.wrap (n : Int) = (n : Int) := by rw [IntKind.wrap_u8]; omega
      obtain ⟨⟨x, hx⟩, hf⟩ := hrow.out.cell 3 (by omega)
      go_wp2
      go_ret
      exact ⟨rfl, hrow.out.set 3 (by omega) _, hbel.out.setc 3 _⟩
end Go.Proofs.YtdmggcbbfljciaaGreatDoor

/- netip.ParseAddr and isIP at four figures' groups. -/
namespace Go.Proofs.YtdmggcbbfljciaaGreatDoor
open Go.RowKit Go.Lib

set_option maxRecDepth 100000 in
theorem z4_any (w : World) : Calls Tryz.prog 144 #[] w fun e w' => e = .returned (.agg #[.bool true, .bool false, .string ⟨#[]⟩]) ∧ Below w.heap.size w w' := by
  go_enter Tryz.func144, Tryz.ntmps144
  go_wp2_with fail
  (try simp only [Exit.inBlock, Exit.then])
  refine bodyPost_ret (v := .agg #[.bool true, .bool false, .string ⟨#[]⟩]) ?_ rfl ⟨rfl, (Below.refl _ _).alloc (Nat.le_refl _) _⟩
  simp [results, Tryz.results144, asAddr]
  go_simp

set_option maxRecDepth 100000 in
theorem z0_any (w : World) : Calls Tryz.prog 95 #[] w fun e w' => e = .returned (.agg #[.bool false, .bool false, .string ⟨#[]⟩]) ∧ Below w.heap.size w w' := by
  go_enter Tryz.func95, Tryz.ntmps95
  go_wp2_with fail
  (try simp only [Exit.inBlock, Exit.then])
  refine bodyPost_ret (v := .agg #[.bool false, .bool false, .string ⟨#[]⟩]) ?_ rfl ⟨rfl, (Below.refl _ _).alloc (Nat.le_refl _) _⟩
  simp [results, Tryz.results95, asAddr]
  go_simp

theorem five_set {W : World} {b : Nat} {T : TypeId} {z0 z1 z2 z3 z4 : Value} (h : W.heap[b]? = some (.cells #[z0, z1, z2, z3, z4] T (0, 0))) (x0 x1 x2 x3 x4 : Value) :
    (((((W.setCell ⟨b, 0, none⟩ x0).setCell ⟨b, 1, none⟩ x1).setCell ⟨b, 2, none⟩ x2).setCell ⟨b, 3, none⟩ x3).setCell ⟨b, 4, none⟩ x4).heap[b]? = some (.cells #[x0, x1, x2, x3, x4] T (0, 0)) := by
  have e0 := heap_setCell_same W b 0 _ _ x0 h
  have e1 := heap_setCell_same _ b 1 _ _ x1 e0
  have e2 := heap_setCell_same _ b 2 _ _ x2 e1
  have e3 := heap_setCell_same _ b 3 _ _ x3 e2
  have e4 := heap_setCell_same _ b 4 _ _ x4 e3
  rw [e4]; rfl

/-- an address' five cells -/
theorem five_facts {W : World} {b : Nat} {T : TypeId} {z0 z1 z2 z3 z4 : Value} (h : W.heap[b]? = some (.cells #[z0, z1, z2, z3, z4] T (0, 0))) :
    W.cell? ⟨b, 0, none⟩ = some z0 ∧ W.cell? ⟨b, 1, none⟩ = some z1 ∧ W.cell? ⟨b, 2, none⟩ = some z2 ∧ W.cell? ⟨b, 3, none⟩ = some z3 ∧ W.cell? ⟨b, 4, none⟩ = some z4 ∧ W.frozen? ⟨b, 0, none⟩ = false ∧ W.frozen? ⟨b, 1, none⟩ = false ∧ W.frozen? ⟨b, 2, none⟩ = false ∧ W.frozen? ⟨b, 3, none⟩ = false ∧ W.frozen? ⟨b, 4, none⟩ = false :=
  ⟨row_cell (l := [z0, z1, z2, z3, z4]) h (j := 0) rfl, row_cell (l := [z0, z1, z2, z3, z4]) h (j := 1) rfl, row_cell (l := [z0, z1, z2, z3, z4]) h (j := 2) rfl, row_cell (l := [z0, z1, z2, z3, z4]) h (j := 3) rfl, row_cell (l := [z0, z1, z2, z3, z4]) h (j := 4) rfl,
   row_free (l := [z0, z1, z2, z3, z4]) h 0, row_free (l := [z0, z1, z2, z3, z4]) h 1, row_free (l := [z0, z1, z2, z3, z4]) h 2, row_free (l := [z0, z1, z2, z3, z4]) h 3, row_free (l := [z0, z1, z2, z3, z4]) h 4⟩

set_option maxRecDepth 100000 in
set_option maxHeartbeats 4000000 in
theorem zone_any (x0 x1 : Int) (v : Bool) (w : World) :
    Calls Tryz.prog 66 #[.agg #[.int .u64 x0, .int .u64 x1, .bool true, .bool v, .string ⟨#[]⟩]] w fun e w' => e = .returned (.string ⟨#[]⟩) ∧ Below w.heap.size w w' := by
  have HV : Hid (Below w.heap.size w (w.alloc (.cells #[.int .u64 x0, .int .u64 x1, .bool true, .bool v, .string ⟨#[]⟩] 125))) := (Below.refl _ _).alloc (Nat.le_refl _) _
  have HR := Lib.hid (heap_alloc_new w (.cells #[.int .u64 x0, .int .u64 x1, .bool true, .bool v, .string ⟨#[]⟩] 125))
  have hlt : w.heap.size < (w.alloc (.cells #[.int .u64 x0, .int .u64 x1, .bool true, .bool v, .string ⟨#[]⟩] 125)).heap.size := by simp
  go_enter Tryz.func66, Tryz.ntmps66
  go_upto_region 1 with fail
  generalize (w.alloc (.cells #[.int .u64 x0, .int .u64 x1, .bool true, .bool v, .string ⟨#[]⟩] 125)) = V at *
  obtain ⟨-, -, c2, c3, c4, -⟩ := five_facts HR.out
  have a2 := c2
  have a3 := c3
  have a4 := c4
  have HB3 : Below V.heap.size V V := Below.refl _ _
  go_region_held3 (fun W => W.cell? ⟨w.heap.size, 2, none⟩ = some (.bool true) ∧ W.cell? ⟨w.heap.size, 3, none⟩ = some (.bool v) ∧ W.cell? ⟨w.heap.size, 4, none⟩ = some (.string ⟨#[]⟩) ∧ Below V.heap.size V W)
    (first | exact ⟨c2, c3, c4, HB3⟩ | exact ⟨c2, c3, c4, HB3.drew⟩)
    (first | (go_at_call 95; refine (z0_any _).mono ?_; rintro e w3 ⟨rfl, hb3⟩; have HB3 : Below V.heap.size V w3 := (by first | exact HB3.trans (hb3.mono HB3.size) | exact HB3.drew.trans (hb3.mono HB3.size)); have c2 := (HB3.cell (p := ⟨w.heap.size, 2, none⟩) hlt).trans a2; have c3 := (HB3.cell (p := ⟨w.heap.size, 3, none⟩) hlt).trans a3; have c4 := (HB3.cell (p := ⟨w.heap.size, 4, none⟩) hlt).trans a4))
  all_goals go_wp2_with fail
  all_goals go_ret
  all_goals exact ⟨rfl, HV.out.trans (HB3.mono HV.out.size)⟩

set_option maxRecDepth 100000 in
set_option maxHeartbeats 8000000 in
theorem addrFrom4_any (y0 y1 y2 y3 : Int) (w : World) :
    Calls Tryz.prog 118 #[.agg #[.int .u8 y0, .int .u8 y1, .int .u8 y2, .int .u8 y3]] w fun e w' => (∃ x0 x1 : Int, e = .returned (.agg #[.int .u64 x0, .int .u64 x1, .bool true, .bool false, .string ⟨#[]⟩])) ∧ Below w.heap.size w w' := by
  have HV : Hid (Below w.heap.size w ((w.alloc (.cells #[.int .u8 y0, .int .u8 y1, .int .u8 y2, .int .u8 y3] 188)).alloc (.cells #[.int .u64 0, .int .u64 0, .bool false, .bool false, .string ⟨#[]⟩] 125))) := ((Below.refl _ _).alloc (Nat.le_refl _) _).alloc (by simp) _
  have r0 : ((w.alloc (.cells #[.int .u8 y0, .int .u8 y1, .int .u8 y2, .int .u8 y3] 188)).alloc (.cells #[.int .u64 0, .int .u64 0, .bool false, .bool false, .string ⟨#[]⟩] 125)).heap[w.heap.size]? = some (.cells #[.int .u8 y0, .int .u8 y1, .int .u8 y2, .int .u8 y3] 188 (0, 0)) := by
    rw [Below.heap_alloc _ _ _ (by simp)]; exact heap_alloc_new _ _
  have r1 : ((w.alloc (.cells #[.int .u8 y0, .int .u8 y1, .int .u8 y2, .int .u8 y3] 188)).alloc (.cells #[.int .u64 0, .int .u64 0, .bool false, .bool false, .string ⟨#[]⟩] 125)).heap[w.heap.size + 1]? = some (.cells #[.int .u64 0, .int .u64 0, .bool false, .bool false, .string ⟨#[]⟩] 125 (0, 0)) := by
    have h := heap_alloc_new (w.alloc (.cells #[.int .u8 y0, .int .u8 y1, .int .u8 y2, .int .u8 y3] 188)) (.cells #[.int .u64 0, .int .u64 0, .bool false, .bool false, .string ⟨#[]⟩] 125)
    simpa using h
  have na : w.heap.size ≠ w.heap.size + 1 := by omega
  go_enter Tryz.func118, Tryz.ntmps118
  go_upto_region 1 with fail
  generalize ((w.alloc (.cells #[.int .u8 y0, .int .u8 y1, .int .u8 y2, .int .u8 y3] 188)).alloc (.cells #[.int .u64 0, .int .u64 0, .bool false, .bool false, .string ⟨#[]⟩] 125)) = V at *
  have l0 := (Array.getElem?_eq_some_iff.1 r0).1
  have l1 := (Array.getElem?_eq_some_iff.1 r1).1
  have c0 := row_cell (l := [.int .u8 y0, .int .u8 y1, .int .u8 y2, .int .u8 y3]) r0 (j := 0) rfl
  have c1 := row_cell (l := [.int .u8 y0, .int .u8 y1, .int .u8 y2, .int .u8 y3]) r0 (j := 1) rfl
  have c2 := row_cell (l := [.int .u8 y0, .int .u8 y1, .int .u8 y2, .int .u8 y3]) r0 (j := 2) rfl
  have c3 := row_cell (l := [.int .u8 y0, .int .u8 y1, .int .u8 y2, .int .u8 y3]) r0 (j := 3) rfl
  have R0 := Lib.hid r0
  have R1 := Lib.hid r1
  obtain ⟨z0, z1, z2, z3, z4, k0, k1, k2, k3, k4⟩ := five_facts r1
  have HB3 : Below V.heap.size V V := Below.refl _ _
  have HK : Hid (∀ X, BelowX V.heap.size (w.heap.size + 1) V X → X.cell? ⟨w.heap.size, 0, none⟩ = some (.int .u8 y0) ∧ X.cell? ⟨w.heap.size, 1, none⟩ = some (.int .u8 y1) ∧ X.cell? ⟨w.heap.size, 2, none⟩ = some (.int .u8 y2) ∧ X.cell? ⟨w.heap.size, 3, none⟩ = some (.int .u8 y3) ∧ BelowX V.heap.size (w.heap.size + 1) V X) := by
    intro X h
    have k : ∀ j, X.cell? ⟨w.heap.size, j, none⟩ = V.cell? ⟨w.heap.size, j, none⟩ := fun j => h.cell (p := ⟨w.heap.size, j, none⟩) l0 na
    exact ⟨(k 0).trans c0, (k 1).trans c1, (k 2).trans c2, (k 3).trans c3, h⟩
  clear r0 r1
  go_cut [2] from 3 to 24 (fun s2 wc => s2 = .pointer (some ⟨w.heap.size + 1, 0, none⟩) ∧ (∃ x0 x1 : Int, wc.heap[w.heap.size + 1]? = some (.cells #[.int .u64 x0, .int .u64 x1, .bool true, .bool false, .string ⟨#[]⟩] 125 (0, 0))) ∧ BelowX V.heap.size (w.heap.size + 1) V wc)
  case first =>
    go_region_held3 (fun W => W.cell? ⟨w.heap.size, 0, none⟩ = some (.int .u8 y0) ∧ W.cell? ⟨w.heap.size, 1, none⟩ = some (.int .u8 y1) ∧ W.cell? ⟨w.heap.size, 2, none⟩ = some (.int .u8 y2) ∧ W.cell? ⟨w.heap.size, 3, none⟩ = some (.int .u8 y3) ∧ BelowX V.heap.size (w.heap.size + 1) V W)
      (first | exact HK.out _ (BelowX.of_below HB3) | exact HK.out _ (BelowX.of_below HB3.drew) | (refine HK.out _ ?_; repeat (first | exact BelowX.of_below HB3 | exact BelowX.of_below HB3.drew | refine BelowX.setc ?_ _ _)))
      (first | (go_at_call 144; refine (z4_any _).mono ?_; rintro e w3 ⟨rfl, hb3⟩; have HB3 : Below V.heap.size V w3 := (by first | exact HB3.trans (hb3.mono HB3.size) | exact HB3.drew.trans (hb3.mono HB3.size)); obtain ⟨c0, c1, c2, c3, -⟩ := HK.out _ (BelowX.of_below HB3); have R1 : Hid (w3.heap[w.heap.size + 1]? = some (.cells #[.int .u64 0, .int .u64 0, .bool false, .bool false, .string ⟨#[]⟩] 125 (0, 0))) := (HB3.block _ l1).trans R1.out; obtain ⟨z0, z1, z2, z3, z4, k0, k1, k2, k3, k4⟩ := five_facts R1.out))
    all_goals go_wp2_with fail
    all_goals go_meet
    all_goals (case rel => exact ⟨rfl, ⟨_, _, five_set R1.out (.int .u64 _) (.int .u64 _) _ _ _⟩, (((((BelowX.of_below HB3).setc 0 _).setc 1 _).setc 2 _).setc 3 _).setc 4 _⟩)
  case rest =>
  obtain ⟨rfl, ⟨x0, x1, hrow⟩, hbx⟩ := hcut
  have HB : Hid (Below w.heap.size w wc) := HV.out.trans (hbx.below (Nat.le_succ _) HV.out.size)
  go_wp2_with fail
  (try simp only [Exit.inBlock, Exit.then])
  refine bodyPost_ret (v := .agg #[.int .u64 x0, .int .u64 x1, .bool true, .bool false, .string ⟨#[]⟩]) ?_ rfl ⟨⟨x0, x1, rfl⟩, HB.out⟩
  exact results_cell_row rfl _ _ (w.heap.size + 1) _ _ _ _ rfl hrow Tryz.underlying125 rfl (by kernel_rfl)
end Go.Proofs.YtdmggcbbfljciaaGreatDoor

/- netip.ParseAddr and isIP at four figures' groups: joined. -/
namespace Go.Proofs.YtdmggcbbfljciaaGreatDoor
open Go.RowKit Go.Lib

/-- ParseAddr answers with an address without a zone -/
def AddrOk (s : ByteArray) (v : Bool) : Prop := ∀ w, Calls Tryz.prog 65 #[.string s] w fun e w' => (∃ x0 x1 : Int, e = .returned (.tuple #[.agg #[.int .u64 x0, .int .u64 x1, .bool true, .bool v, .string ⟨#[]⟩], .nilIface])) ∧ Below w.heap.size w w'

set_option maxRecDepth 100000 in
set_option maxHeartbeats 4000000 in
theorem parseIPv4_ok (s : ByteArray) (h : F4.Is s.data.toList) (w : World) :
    Calls Tryz.prog 93 #[.string s] w fun e w' => (∃ x0 x1 : Int, e = .returned (.tuple #[.agg #[.int .u64 x0, .int .u64 x1, .bool true, .bool false, .string ⟨#[]⟩], .nilIface])) ∧ Below w.heap.size w w' := by
  have HV : Hid (Below w.heap.size w ((w.alloc (.cells #[.int .u64 0, .int .u64 0, .bool false, .bool false, .string ⟨#[]⟩] 125)).alloc (.cells #[.int .u8 0, .int .u8 0, .int .u8 0, .int .u8 0] 188))) := ((Below.refl _ _).alloc (Nat.le_refl _) _).alloc (by simp) _
  have r0 : ((w.alloc (.cells #[.int .u64 0, .int .u64 0, .bool false, .bool false, .string ⟨#[]⟩] 125)).alloc (.cells #[.int .u8 0, .int .u8 0, .int .u8 0, .int .u8 0] 188)).heap[w.heap.size]? = some (.cells #[.int .u64 0, .int .u64 0, .bool false, .bool false, .string ⟨#[]⟩] 125 (0, 0)) := by
    rw [Below.heap_alloc _ _ _ (by simp)]; exact heap_alloc_new _ _
  have r1 : ((w.alloc (.cells #[.int .u64 0, .int .u64 0, .bool false, .bool false, .string ⟨#[]⟩] 125)).alloc (.cells #[.int .u8 0, .int .u8 0, .int .u8 0, .int .u8 0] 188)).heap[w.heap.size + 1]? = some (.cells #[.int .u8 0, .int .u8 0, .int .u8 0, .int .u8 0] 188 (0, 0)) := by
    have h := heap_alloc_new (w.alloc (.cells #[.int .u64 0, .int .u64 0, .bool false, .bool false, .string ⟨#[]⟩] 125)) (.cells #[.int .u8 0, .int .u8 0, .int .u8 0, .int .u8 0] 188)
    simpa using h
  have Hf := Lib.hid (fun W hW => fields_ok s h (w.heap.size + 1) W hW)
  clear h
  go_enter Tryz.func93, Tryz.ntmps93
  go_wp2_with fail
  generalize ((w.alloc (.cells #[.int .u64 0, .int .u64 0, .bool false, .bool false, .string ⟨#[]⟩] 125)).alloc (.cells #[.int .u8 0, .int .u8 0, .int .u8 0, .int .u8 0] 188)) = V at *
  refine (Hf.out _ ⟨0, 0, 0, 0, r1⟩).mono ?_
  rintro e w2 ⟨rfl, hrow, hbx⟩
  have l0 := (Array.getElem?_eq_some_iff.1 r0).1
  have l1 := (Array.getElem?_eq_some_iff.1 r1).1
  have R0 : Hid (w2.heap[w.heap.size]? = some (.cells #[.int .u64 0, .int .u64 0, .bool false, .bool false, .string ⟨#[]⟩] 125 (0, 0))) := (hbx.out.block _ l0 (by omega)).trans r0
  obtain ⟨y0, y1, y2, y3, hr4⟩ := hrow.out
  have c0 := row_cell (l := [.int .u8 y0, .int .u8 y1, .int .u8 y2, .int .u8 y3]) hr4 (j := 0) rfl
  have c1 := row_cell (l := [.int .u8 y0, .int .u8 y1, .int .u8 y2, .int .u8 y3]) hr4 (j := 1) rfl
  have c2 := row_cell (l := [.int .u8 y0, .int .u8 y1, .int .u8 y2, .int .u8 y3]) hr4 (j := 2) rfl
  have c3 := row_cell (l := [.int .u8 y0, .int .u8 y1, .int .u8 y2, .int .u8 y3]) hr4 (j := 3) rfl
  have HB : Hid (Below w.heap.size w w2) := HV.out.trans (hbx.out.below (Nat.le_succ _) HV.out.size)
  clear r0 r1 hr4 hbx hrow
  go_wp2_with fail
  refine (addrFrom4_any y0 y1 y2 y3 _).mono ?_
  rintro e w3 ⟨⟨x0, x1, rfl⟩, hb3⟩
  have l2 := (Array.getElem?_eq_some_iff.1 R0.out).1
  have R3 : Hid (w3.heap[w.heap.size]? = some (.cells #[.int .u64 0, .int .u64 0, .bool false, .bool false, .string ⟨#[]⟩] 125 (0, 0))) := (hb3.block _ l2).trans R0.out
  obtain ⟨z0, z1, z2, z3, z4, k0, k1, k2, k3, k4⟩ := five_facts R3.out
  have HB3 : Hid (Below w.heap.size w w3) := HB.out.trans (hb3.mono HB.out.size)
  clear hb3
  go_wp2_with fail
  (try simp only [Exit.inBlock, Exit.then])
  refine bodyPost_ret (v := .tuple #[.agg #[.int .u64 x0, .int .u64 x1, .bool true, .bool false, .string ⟨#[]⟩], .nilIface]) ?_ rfl ⟨⟨x0, x1, rfl⟩, ((((HB3.out.setCell (Nat.le_refl _) _).setCell (Nat.le_refl _) _).setCell (Nat.le_refl _) _).setCell (Nat.le_refl _) _).setCell (Nat.le_refl _) _⟩
  rw [results_cell_tmp rfl]
  go_simp

set_option maxRecDepth 100000 in
set_option maxHeartbeats 4000000 in
theorem parseAddr_4 (s : ByteArray) (h : F4.Is s.data.toList) : AddrOk s false := by
  intro w
  have H := Lib.hid h
  have HL : Hid (s.size + 0 = s.data.toList.length) := Lib.size_eq s
  have hsz : s.size ≤ 15 := by rw [Lib.size_eq]; exact h.len
  have Hp := Lib.hid (parseIPv4_ok s h)
  have HV : Hid (Below w.heap.size w (w.alloc (.cells #[.int .u64 0, .int .u64 0, .bool false, .bool false, .string ⟨#[]⟩] 125))) := (Below.refl _ _).alloc (Nat.le_refl _) _
  have HR := Lib.hid (heap_alloc_new w (.cells #[.int .u64 0, .int .u64 0, .bool false, .bool false, .string ⟨#[]⟩] 125))
  clear h
  go_enter Tryz.func65, Tryz.ntmps65
  go_wp2
  generalize (w.alloc (.cells #[.int .u64 0, .int .u64 0, .bool false, .bool false, .string ⟨#[]⟩] 125)) = V at *
  go_loopg [4] (s.size + 1) (fun m iv wr => ∃ i : Nat, iv = .int .i64 i ∧ Hid (m + i = s.size + 1) ∧ Hid (i ≤ s.size) ∧ Hid (∀ j, j < i → (s.data.toList.getD j 0).toNat ≠ 46) ∧ wr = V)
  case atStart => exact ⟨0, rfl, rfl, Nat.zero_le _, fun j hj => absurd hj (Nat.not_lt_zero j), rfl⟩
  case round =>
    obtain ⟨i, rfl, hm, hi, hno, rfl⟩ := hrel
    by_cases hin : i < s.size
    · have hlt : decide ((i : Int) < (s.size : Int)) = true := by simp; omega
      have Hx : Hid ((s.data.toList.getD i 0).toNat = (s[i]'hin).toNat) := (byte_get s i hin).symm
      have hil : i < s.data.toList.length := by rw [← HL.out]; exact hin
      rcases H.out.byte i hil with h1 | ⟨h1, h2⟩
      · have e46 : (s[i]'hin).toNat = 46 := Hx.out.symm.trans h1
        have b1 : (((s[i]'hin).toNat : Int) == 46) = true := by simp; omega
        clear h1 hil
        go_wp2_with fail
        refine (Hp.out _).mono ?_
        rintro e w3 ⟨⟨x0, x1, rfl⟩, hb3⟩
        have l2 := (Array.getElem?_eq_some_iff.1 HR.out).1
        have R3 : Hid (w3.heap[w.heap.size]? = some (.cells #[.int .u64 0, .int .u64 0, .bool false, .bool false, .string ⟨#[]⟩] 125 (0, 0))) := (hb3.block _ l2).trans HR.out
        obtain ⟨z0, z1, z2, z3, z4, k0, k1, k2, k3, k4⟩ := five_facts R3.out
        have HB3 : Hid (Below w.heap.size w w3) := HV.out.trans (hb3.mono HV.out.size)
        clear hb3
        go_wp2_with fail
        (try simp only [Exit.inBlock, Exit.then])
        refine bodyPost_ret (v := .tuple #[.agg #[.int .u64 x0, .int .u64 x1, .bool true, .bool false, .string ⟨#[]⟩], .nilIface]) ?_ rfl ⟨⟨x0, x1, rfl⟩, ((((HB3.out.setCell (Nat.le_refl _) _).setCell (Nat.le_refl _) _).setCell (Nat.le_refl _) _).setCell (Nat.le_refl _) _).setCell (Nat.le_refl _) _⟩
        rw [results_cell_tmp rfl]
        go_simp
      · have e48 : 48 ≤ (s[i]'hin).toNat := Nat.le_trans h1 (Nat.le_of_eq Hx.out)
        have e57 : (s[i]'hin).toNat ≤ 57 := Nat.le_trans (Nat.le_of_eq Hx.out.symm) h2
        have b1 : (((s[i]'hin).toNat : Int) == 46) = false := by simp; omega
        have b2 : (((s[i]'hin).toNat : Int) == 58) = false := by simp; omega
        have b3 : (((s[i]'hin).toNat : Int) == 37) = false := by simp; omega
        have Hne : Hid ((s.data.toList.getD i 0).toNat ≠ 46) := (show _ ≠ _ by omega)
        clear h1 h2 hil
        go_wp2_with fail
        go_roundg (gk - 1)
        case measure => have := hm.out; have := hi.out; omega
        case rel =>
          have e1 := hm.out
          refine ⟨i + 1, by go_num, show _ = _ by omega, show _ ≤ _ by omega, ?_, rfl⟩
          intro j hj
          by_cases hji : j = i
          · rw [hji]; exact Hne.out
          · exact hno.out j (by omega)
    · exfalso
      have hi2 : i = s.size := by have := hi.out; omega
      obtain ⟨j, hj, hx⟩ := List.getElem_of_mem H.out.point
      have := hno.out j (by have := HL.out; omega)
      rw [List.getD, List.getElem?_eq_getElem hj, Option.getD_some, hx] at this
      exact this rfl

set_option maxRecDepth 100000 in
set_option maxHeartbeats 4000000 in
theorem isIP_of (s : ByteArray) (v : Bool) (h : AddrOk s v) (w : World) :
    Calls Tryz.prog 45 #[.string s] w fun e w' => e = .returned (.bool true) ∧ Below w.heap.size w w' := by
  have H := Lib.hid h
  clear h
  go_enter Tryz.func45, Tryz.ntmps45
  go_wp2_with fail
  refine (H.out _).mono ?_
  rintro e w2 ⟨⟨x0, x1, rfl⟩, hb2⟩
  go_wp2_with fail
  refine (zone_any x0 x1 v _).mono ?_
  rintro e w3 ⟨rfl, hb3⟩
  go_wp2_with fail
  go_ret
  exact ⟨rfl, (hb2.alloc hb2.size _).trans (hb3.mono (by simp; have := hb2.size; omega))⟩
end Go.Proofs.YtdmggcbbfljciaaGreatDoor

/- netip at the sixth version: the parts. -/
namespace Go.Proofs.YtdmggcbbfljciaaGreatDoor
open Go.RowKit Go.Lib

set_option maxRecDepth 100000 in
theorem z6_any (w : World) : Calls Tryz.prog 145 #[] w fun e w' => e = .returned (.agg #[.bool true, .bool true, .string ⟨#[]⟩]) ∧ Below w.heap.size w w' := by
  go_enter Tryz.func145, Tryz.ntmps145
  go_wp2_with fail
  (try simp only [Exit.inBlock, Exit.then])
  refine bodyPost_ret (v := .agg #[.bool true, .bool true, .string ⟨#[]⟩]) ?_ rfl ⟨rfl, (Below.refl _ _).alloc (Nat.le_refl _) _⟩
  simp [results, Tryz.results145, asAddr]
  go_simp

set_option maxRecDepth 100000 in
set_option maxHeartbeats 2000000 in
theorem indexByte_miss (s : ByteArray) (h : (37 : UInt8) ∉ s.data.toList) (hl : s.size ≤ 100) (w : World) :
    Calls Tryz.prog 119 #[.string s, .int .u8 37] w fun e w' => e = .returned (.int .i64 (-1)) ∧ w' = w := by
  have H := Lib.hid h
  have HL : Hid (s.size + 0 = s.data.toList.length) := Lib.size_eq s
  clear h
  go_enter Tryz.func119, Tryz.ntmps119
  go_wp2
  go_loopg [5] (s.size + 1) (fun m iv wr => ∃ i : Nat, iv = .int .i64 i ∧ Hid (m + i = s.size + 1) ∧ Hid (i ≤ s.size) ∧ wr = w)
  case atStart => exact ⟨0, rfl, rfl, Nat.zero_le _, rfl⟩
  case round =>
    obtain ⟨i, rfl, hm, hi, rfl⟩ := hrel
    by_cases hin : i < s.size
    · have hlt : decide ((i : Int) < (s.size : Int)) = true := by simp; omega
      have hx : (s.data.toList.getD i 0).toNat = (s[i]'hin).toNat := (byte_get s i hin).symm
      have hne : (s[i]'hin).toNat ≠ 37 := by
        intro e
        apply H.out
        have hil : i < s.data.toList.length := by rw [← HL.out]; exact hin
        have e2 : s.data.toList.getD i 0 = 37 := UInt8.toNat_inj.1 (hx.trans e)
        rw [List.getD, List.getElem?_eq_getElem hil, Option.getD_some] at e2
        rw [← e2]; exact List.getElem_mem hil
      have b1 : (((s[i]'hin).toNat : Int) == 37) = false := by simp; omega
      clear hx hne
      go_wp2
      go_roundg (gk - 1)
      case measure => have := hm.out; have := hi.out; omega
      case rel =>
        have e1 := hm.out
        exact ⟨i + 1, by go_num, show _ = _ by omega, show _ ≤ _ by omega, rfl⟩
    · have hlt : decide ((i : Int) < (s.size : Int)) = false := by simp; omega
      go_wp2
      go_ret
      exact ⟨rfl, rfl⟩

set_option maxRecDepth 100000 in
set_option maxHeartbeats 4000000 in
theorem is6_any (x0 x1 : Int) (w : World) :
    Calls Tryz.prog 146 #[.agg #[.int .u64 x0, .int .u64 x1, .bool true, .bool true, .string ⟨#[]⟩]] w fun e w' => e = .returned (.bool true) ∧ Below w.heap.size w w' := by
  have HV : Hid (Below w.heap.size w (w.alloc (.cells #[.int .u64 x0, .int .u64 x1, .bool true, .bool true, .string ⟨#[]⟩] 125))) := (Below.refl _ _).alloc (Nat.le_refl _) _
  have HR := Lib.hid (heap_alloc_new w (.cells #[.int .u64 x0, .int .u64 x1, .bool true, .bool true, .string ⟨#[]⟩] 125))
  have hlt : w.heap.size < (w.alloc (.cells #[.int .u64 x0, .int .u64 x1, .bool true, .bool true, .string ⟨#[]⟩] 125)).heap.size := by simp
  go_enter Tryz.func146, Tryz.ntmps146
  go_upto_region 1 with fail
  generalize (w.alloc (.cells #[.int .u64 x0, .int .u64 x1, .bool true, .bool true, .string ⟨#[]⟩] 125)) = V at *
  obtain ⟨-, -, c2, c3, c4, -⟩ := five_facts HR.out
  have a2 := c2
  have a3 := c3
  have a4 := c4
  have HB3 : Below V.heap.size V V := Below.refl _ _
  go_region_held3 (fun W => W.cell? ⟨w.heap.size, 2, none⟩ = some (.bool true) ∧ W.cell? ⟨w.heap.size, 3, none⟩ = some (.bool true) ∧ W.cell? ⟨w.heap.size, 4, none⟩ = some (.string ⟨#[]⟩) ∧ Below V.heap.size V W)
    (first | exact ⟨c2, c3, c4, HB3⟩ | exact ⟨c2, c3, c4, HB3.drew⟩)
    (first | (go_at_call 95; refine (z0_any _).mono ?_; rintro e w3 ⟨rfl, hb3⟩; have HB3 : Below V.heap.size V w3 := (by first | exact HB3.trans (hb3.mono HB3.size) | exact HB3.drew.trans (hb3.mono HB3.size)); have c2 := (HB3.cell (p := ⟨w.heap.size, 2, none⟩) hlt).trans a2; have c3 := (HB3.cell (p := ⟨w.heap.size, 3, none⟩) hlt).trans a3; have c4 := (HB3.cell (p := ⟨w.heap.size, 4, none⟩) hlt).trans a4) | (go_at_call 144; refine (z4_any _).mono ?_; rintro e w3 ⟨rfl, hb3⟩; have HB3 : Below V.heap.size V w3 := (by first | exact HB3.trans (hb3.mono HB3.size) | exact HB3.drew.trans (hb3.mono HB3.size)); have c2 := (HB3.cell (p := ⟨w.heap.size, 2, none⟩) hlt).trans a2; have c3 := (HB3.cell (p := ⟨w.heap.size, 3, none⟩) hlt).trans a3; have c4 := (HB3.cell (p := ⟨w.heap.size, 4, none⟩) hlt).trans a4))
  all_goals go_wp2_with fail
  all_goals go_ret
  all_goals exact ⟨rfl, HV.out.trans (HB3.mono HV.out.size)⟩

theorem set_three {W : World} {b : Nat} {T : TypeId} {z0 z1 z2 z3 z4 : Value} (h : W.heap[b]? = some (.cells #[z0, z1, z2, z3, z4] T (0, 0))) (x2 x3 x4 : Value) :
    (((W.setCell ⟨b, 2, none⟩ x2).setCell ⟨b, 3, none⟩ x3).setCell ⟨b, 4, none⟩ x4).heap[b]? = some (.cells #[z0, z1, x2, x3, x4] T (0, 0)) := by
  have e2 := heap_setCell_same _ b 2 _ _ x2 h
  have e3 := heap_setCell_same _ b 3 _ _ x3 e2
  have e4 := heap_setCell_same _ b 4 _ _ x4 e3
  rw [e4]; rfl

set_option maxRecDepth 100000 in
set_option maxHeartbeats 4000000 in
theorem withZone_any (x0 x1 : Int) (w : World) :
    Calls Tryz.prog 121 #[.agg #[.int .u64 x0, .int .u64 x1, .bool true, .bool true, .string ⟨#[]⟩], .string ⟨#[]⟩] w fun e w' => e = .returned (.agg #[.int .u64 x0, .int .u64 x1, .bool true, .bool true, .string ⟨#[]⟩]) ∧ Below w.heap.size w w' := by
  have HV : Hid (Below w.heap.size w ((w.alloc (.cells #[.int .u64 x0, .int .u64 x1, .bool true, .bool true, .string ⟨#[]⟩] 125)).alloc (.cells #[.int .u64 0, .int .u64 0, .bool false, .bool false, .string ⟨#[]⟩] 125))) := ((Below.refl _ _).alloc (Nat.le_refl _) _).alloc (by simp) _
  have r0 : ((w.alloc (.cells #[.int .u64 x0, .int .u64 x1, .bool true, .bool true, .string ⟨#[]⟩] 125)).alloc (.cells #[.int .u64 0, .int .u64 0, .bool false, .bool false, .string ⟨#[]⟩] 125)).heap[w.heap.size]? = some (.cells #[.int .u64 x0, .int .u64 x1, .bool true, .bool true, .string ⟨#[]⟩] 125 (0, 0)) := by
    rw [Below.heap_alloc _ _ _ (by simp)]; exact heap_alloc_new _ _
  have r1 : ((w.alloc (.cells #[.int .u64 x0, .int .u64 x1, .bool true, .bool true, .string ⟨#[]⟩] 125)).alloc (.cells #[.int .u64 0, .int .u64 0, .bool false, .bool false, .string ⟨#[]⟩] 125)).heap[w.heap.size + 1]? = some (.cells #[.int .u64 0, .int .u64 0, .bool false, .bool false, .string ⟨#[]⟩] 125 (0, 0)) := by
    have h := heap_alloc_new (w.alloc (.cells #[.int .u64 x0, .int .u64 x1, .bool true, .bool true, .string ⟨#[]⟩] 125)) (.cells #[.int .u64 0, .int .u64 0, .bool false, .bool false, .string ⟨#[]⟩] 125)
    simpa using h
  go_enter Tryz.func121, Tryz.ntmps121
  go_wp2_with fail
  generalize ((w.alloc (.cells #[.int .u64 x0, .int .u64 x1, .bool true, .bool true, .string ⟨#[]⟩] 125)).alloc (.cells #[.int .u64 0, .int .u64 0, .bool false, .bool false, .string ⟨#[]⟩] 125)) = V at *
  refine (is6_any x0 x1 _).mono ?_
  rintro e w2 ⟨rfl, hb2⟩
  have R0 : Hid (w2.heap[w.heap.size]? = some (.cells #[.int .u64 x0, .int .u64 x1, .bool true, .bool true, .string ⟨#[]⟩] 125 (0, 0))) := (hb2.block _ (Array.getElem?_eq_some_iff.1 r0).1).trans r0
  have R1 : Hid (w2.heap[w.heap.size + 1]? = some (.cells #[.int .u64 0, .int .u64 0, .bool false, .bool false, .string ⟨#[]⟩] 125 (0, 0))) := (hb2.block _ (Array.getElem?_eq_some_iff.1 r1).1).trans r1
  have HB : Hid (Below w.heap.size w w2) := HV.out.trans (hb2.mono HV.out.size)
  clear hb2 r0 r1
  go_wp2_with fail
  refine (z6_any _).mono ?_
  rintro e w3 ⟨rfl, hb3⟩
  have R0 : Hid (w3.heap[w.heap.size]? = some (.cells #[.int .u64 x0, .int .u64 x1, .bool true, .bool true, .string ⟨#[]⟩] 125 (0, 0))) := (hb3.block _ (Array.getElem?_eq_some_iff.1 R0.out).1).trans R0.out
  have R1 : Hid (w3.heap[w.heap.size + 1]? = some (.cells #[.int .u64 0, .int .u64 0, .bool false, .bool false, .string ⟨#[]⟩] 125 (0, 0))) := (hb3.block _ (Array.getElem?_eq_some_iff.1 R1.out).1).trans R1.out
  have HB : Hid (Below w.heap.size w w3) := HB.out.trans (hb3.mono HB.out.size)
  obtain ⟨z0, z1, z2, z3, z4, k0, k1, k2, k3, k4⟩ := five_facts R0.out
  obtain ⟨y0, y1, y2, y3, y4, l0, l1, l2, l3, l4⟩ := five_facts R1.out
  clear hb3
  go_wp2_with fail
  (try simp only [Exit.inBlock, Exit.then])
  refine bodyPost_ret (v := .agg #[.int .u64 x0, .int .u64 x1, .bool true, .bool true, .string ⟨#[]⟩]) ?_ rfl ⟨rfl, ?_⟩
  · simp [results, Tryz.results121, asAddr]
    go_simp
  · exact ((((((((HB.out).setCell (Nat.le_refl _) _).setCell (Nat.le_refl _) _).setCell (Nat.le_refl _) _).setCell (Nat.le_succ _) _).setCell (Nat.le_succ _) _).setCell (Nat.le_succ _) _).setCell (Nat.le_succ _) _).setCell (Nat.le_succ _) _

set_option maxRecDepth 100000 in
set_option maxHeartbeats 4000000 in
theorem unspec_any (w : World) :
    Calls Tryz.prog 120 #[] w fun e w' => e = .returned (.agg #[.int .u64 0, .int .u64 0, .bool true, .bool true, .string ⟨#[]⟩]) ∧ Below w.heap.size w w' := by
  have HV : Hid (Below w.heap.size w (w.alloc (.cells #[.int .u64 0, .int .u64 0, .bool false, .bool false, .string ⟨#[]⟩] 125))) := (Below.refl _ _).alloc (Nat.le_refl _) _
  have HR := Lib.hid (heap_alloc_new w (.cells #[.int .u64 0, .int .u64 0, .bool false, .bool false, .string ⟨#[]⟩] 125))
  go_enter Tryz.func120, Tryz.ntmps120
  go_wp2_with fail
  generalize (w.alloc (.cells #[.int .u64 0, .int .u64 0, .bool false, .bool false, .string ⟨#[]⟩] 125)) = V at *
  refine (z6_any _).mono ?_
  rintro e w3 ⟨rfl, hb3⟩
  have R0 : Hid (w3.heap[w.heap.size]? = some (.cells #[.int .u64 0, .int .u64 0, .bool false, .bool false, .string ⟨#[]⟩] 125 (0, 0))) := (hb3.block _ (Array.getElem?_eq_some_iff.1 HR.out).1).trans HR.out
  have HB : Hid (Below w.heap.size w w3) := HV.out.trans (hb3.mono HV.out.size)
  obtain ⟨z0, z1, z2, z3, z4, k0, k1, k2, k3, k4⟩ := five_facts R0.out
  clear hb3
  go_wp2_with fail
  (try simp only [Exit.inBlock, Exit.then])
  refine bodyPost_ret (v := .agg #[.int .u64 0, .int .u64 0, .bool true, .bool true, .string ⟨#[]⟩]) ?_ rfl ⟨rfl, ?_⟩
  · simp [results, Tryz.results120, asAddr]
    go_simp
  · exact (((((HB.out).setCell (Nat.le_refl _) _).setCell (Nat.le_refl _) _).setCell (Nat.le_refl _) _).setCell (Nat.le_refl _) _).setCell (Nat.le_refl _) _
end Go.Proofs.YtdmggcbbfljciaaGreatDoor

/- netip at the sixth version: sixteen bytes. -/
namespace Go.Proofs.YtdmggcbbfljciaaGreatDoor
open Go.RowKit Go.Lib

/-- sixteen bytes in a block -/
def Row16 (W : World) (b : Nat) : Prop := ∃ l : List Value, W.heap[b]? = some (.cells l.toArray 192 (0, 0)) ∧ l.length = 16 ∧ ∀ k, k < 16 → ∃ x : Int, l[k]? = some (.int .u8 x)

theorem Row16.cell {W : World} {b : Nat} (h : Row16 W b) (k : Nat) (hk : k < 16) : (∃ x : Int, W.cell? ⟨b, k, none⟩ = some (.int .u8 x)) ∧ W.frozen? ⟨b, k, none⟩ = false := by
  obtain ⟨l, hl, hn, hc⟩ := h
  obtain ⟨x, hx⟩ := hc k hk
  exact ⟨⟨x, row_cell hl hx⟩, row_free hl k⟩

theorem Row16.set {W : World} {b : Nat} (h : Row16 W b) (k : Nat) (hk : k < 16) (v : Int) : Row16 (W.setCell ⟨b, k, none⟩ (.int .u8 v)) b := by
  obtain ⟨l, hl, hn, hc⟩ := h
  refine ⟨l.set k (.int .u8 v), ?_, by rw [List.length_set]; exact hn, fun j hj => ?_⟩
  · rw [heap_setCell_same _ _ _ _ _ _ hl]; simp
  · by_cases hjk : j = k
    · subst hjk; exact ⟨v, List.getElem?_set_self (by omega)⟩
    · rw [List.getElem?_set_ne (fun e => hjk e.symm)]; exact hc j hj

theorem Row16.kept {W W' : World} {b : Nat} (h : Row16 W b) (e : W'.heap[b]? = W.heap[b]?) : Row16 W' b := by
  obtain ⟨l, hl, hn, hc⟩ := h
  exact ⟨l, e.trans hl, hn, hc⟩

set_option maxRecDepth 100000 in
set_option maxHeartbeats 4000000 in
theorem beUint64_any (b o c : Nat) (w : World) (h : ∀ j, j < 8 → ∃ x : Int, w.cell? ⟨b, o + j, none⟩ = some (.int .u8 x)) :
    Calls Tryz.prog 147 #[.slice (some ⟨b, o, none⟩) 8 c] w fun e w' => (∃ v : Int, e = .returned (.int .u64 v)) ∧ w' = w := by
  have H := Lib.hid h
  obtain ⟨x7, c7⟩ := h 7 (by omega)
  clear h
  go_enter Tryz.func147, Tryz.ntmps147
  go_wp2
  go_loopg [3, 4] 9 (fun m vv iv wr => ∃ (i : Nat) (v : Int), vv = .int .u64 v ∧ iv = .int .i64 i ∧ Hid (m + i = 9) ∧ i ≤ 8 ∧ wr = w)
  case atStart => exact ⟨0, 0, rfl, rfl, rfl, by omega, rfl⟩
  case round =>
    obtain ⟨i, v, rfl, rfl, hm, hi, rfl⟩ := hrel
    by_cases hin : i < 8
    · have hlt : decide ((i : Int) < 8) = true := decide_eq_true (by omega)
      have p1 : (0 : Int) ≤ (i : Int) := by omega
      have p2 : (i : Int) < 8 := by omega
      obtain ⟨x, hx⟩ := H.out i hin
      go_wp2
      go_roundg (gk - 1)
      case measure => have := hm.out; omega
      case rel =>
        have e1 := hm.out
        exact ⟨i + 1, _, rfl, by go_num, show _ = _ by omega, by omega, rfl⟩
    · have hlt : decide ((i : Int) < 8) = false := decide_eq_false (by omega)
      go_wp2
      go_ret
      exact ⟨⟨_, rfl⟩, rfl⟩

set_option maxRecDepth 100000 in
set_option maxHeartbeats 8000000 in
theorem addrFrom16_any (l : List Value) (hl : l.length = 16) (hc : ∀ k, k < 16 → ∃ x : Int, l[k]? = some (.int .u8 x)) (w : World) :
    Calls Tryz.prog 122 #[.agg l.toArray] w fun e w' => (∃ x0 x1 : Int, e = .returned (.agg #[.int .u64 x0, .int .u64 x1, .bool true, .bool true, .string ⟨#[]⟩])) ∧ Below w.heap.size w w' := by
  have HV : Hid (Below w.heap.size w ((w.alloc (.cells l.toArray 192)).alloc (.cells #[.int .u64 0, .int .u64 0, .bool false, .bool false, .string ⟨#[]⟩] 125))) := ((Below.refl _ _).alloc (Nat.le_refl _) _).alloc (by simp) _
  have r0 : ((w.alloc (.cells l.toArray 192)).alloc (.cells #[.int .u64 0, .int .u64 0, .bool false, .bool false, .string ⟨#[]⟩] 125)).heap[w.heap.size]? = some (.cells l.toArray 192 (0, 0)) := by
    rw [Below.heap_alloc _ _ _ (by simp)]; exact heap_alloc_new _ _
  have r1 : ((w.alloc (.cells l.toArray 192)).alloc (.cells #[.int .u64 0, .int .u64 0, .bool false, .bool false, .string ⟨#[]⟩] 125)).heap[w.heap.size + 1]? = some (.cells #[.int .u64 0, .int .u64 0, .bool false, .bool false, .string ⟨#[]⟩] 125 (0, 0)) := by
    have h := heap_alloc_new (w.alloc (.cells l.toArray 192)) (.cells #[.int .u64 0, .int .u64 0, .bool false, .bool false, .string ⟨#[]⟩] 125)
    simpa using h
  have na : w.heap.size ≠ w.heap.size + 1 := by omega
  go_enter Tryz.func122, Tryz.ntmps122
  go_upto_region 1 with fail
  generalize ((w.alloc (.cells l.toArray 192)).alloc (.cells #[.int .u64 0, .int .u64 0, .bool false, .bool false, .string ⟨#[]⟩] 125)) = V at *
  have l1 := (Array.getElem?_eq_some_iff.1 r1).1
  have l0 := (Array.getElem?_eq_some_iff.1 r0).1
  have H16 : Hid (Row16 V w.heap.size) := ⟨l, r0, hl, hc⟩
  have R1 := Lib.hid r1
  obtain ⟨z0, z1, z2, z3, z4, k0, k1, k2, k3, k4⟩ := five_facts r1
  have HB3 : Below V.heap.size V V := Below.refl _ _
  have HBe : Hid (∀ X, Below V.heap.size V X → Calls Tryz.prog 147 #[.slice (some ⟨w.heap.size, 0, none⟩) 8 16] X fun e w' => (∃ v : Int, e = .returned (.int .u64 v)) ∧ w' = X) := fun X hX =>
    beUint64_any w.heap.size 0 16 X (fun j hj => by
      obtain ⟨⟨x, hx⟩, _⟩ := H16.out.cell j (by omega)
      exact ⟨x, by rw [Nat.zero_add]; exact (hX.cell (p := ⟨w.heap.size, j, none⟩) l0).trans hx⟩)
  have HBe2 : Hid (∀ X, Below V.heap.size V X → Calls Tryz.prog 147 #[.slice (some ⟨w.heap.size, 8, none⟩) 8 8] X fun e w' => (∃ v : Int, e = .returned (.int .u64 v)) ∧ w' = X) := fun X hX =>
    beUint64_any w.heap.size 8 8 X (fun j hj => by
      obtain ⟨⟨x, hx⟩, _⟩ := H16.out.cell (8 + j) (by omega)
      exact ⟨x, (hX.cell (p := ⟨w.heap.size, 8 + j, none⟩) l0).trans hx⟩)
  clear r0 r1 hc
  go_cut [2] from 3 to 9 (fun s2 wc => s2 = .pointer (some ⟨w.heap.size + 1, 0, none⟩) ∧ (∃ x0 x1 : Int, wc.heap[w.heap.size + 1]? = some (.cells #[.int .u64 x0, .int .u64 x1, .bool true, .bool true, .string ⟨#[]⟩] 125 (0, 0))) ∧ BelowX V.heap.size (w.heap.size + 1) V wc)
  case first =>
    go_region_with (first | (go_at_call 147; (first | (with_reducible refine (HBe.out _ HB3).mono ?_) | (with_reducible refine (HBe.out _ HB3.drew).mono ?_)); rintro e w3 ⟨⟨va, rfl⟩, rfl⟩) | (go_at_call 147; (first | (with_reducible refine (HBe2.out _ HB3).mono ?_) | (with_reducible refine (HBe2.out _ HB3.drew).mono ?_)); rintro e w3 ⟨⟨vb, rfl⟩, rfl⟩) | (go_at_call 145; refine (z6_any _).mono ?_; rintro e w3 ⟨rfl, hb3⟩; have HB3 : Below V.heap.size V w3 := (by first | exact HB3.trans (hb3.mono HB3.size) | exact HB3.drew.trans (hb3.mono HB3.size)); have R1 : Hid (w3.heap[w.heap.size + 1]? = some (.cells #[.int .u64 0, .int .u64 0, .bool false, .bool false, .string ⟨#[]⟩] 125 (0, 0))) := (HB3.block _ l1).trans R1.out; obtain ⟨z0, z1, z2, z3, z4, k0, k1, k2, k3, k4⟩ := five_facts R1.out))
    all_goals go_wp2_with fail
    all_goals go_meet
    all_goals (case rel => exact ⟨rfl, ⟨_, _, five_set R1.out (.int .u64 _) (.int .u64 _) _ _ _⟩, (((((BelowX.of_below HB3).setc 0 _).setc 1 _).setc 2 _).setc 3 _).setc 4 _⟩)
  case rest =>
  obtain ⟨rfl, ⟨x0, x1, hrow⟩, hbx⟩ := hcut
  have HB : Hid (Below w.heap.size w wc) := HV.out.trans (hbx.below (Nat.le_succ _) HV.out.size)
  go_wp2_with fail
  (try simp only [Exit.inBlock, Exit.then])
  refine bodyPost_ret (v := .agg #[.int .u64 x0, .int .u64 x1, .bool true, .bool true, .string ⟨#[]⟩]) ?_ rfl ⟨⟨x0, x1, rfl⟩, HB.out⟩
  exact results_cell_row rfl _ _ (w.heap.size + 1) _ _ _ _ rfl hrow Tryz.underlying125 rfl (by kernel_rfl)
end Go.Proofs.YtdmggcbbfljciaaGreatDoor
