/- parseLevel: a level of a text. -/
import Derived.Test.YtdmggcbbfljciaaGreatDoorCats
namespace Go.Proofs.YtdmggcbbfljciaaGreatDoor
open Go.RowKit

/-- block lb is a level: its sensitivity, and its categories, if it has any -/
def LvAt (W : World) (lb sens : Nat) (has : Bool) (P : Nat → Prop) : Prop :=
  (has = false ∧ W.heap[lb]? = some (.cells #[.pointer none, .int .i64 sens] 143 (0, 0)) ∧ ∀ x, ¬ P x) ∨
  (has = true ∧ ∃ b B ws, W.heap[lb]? = some (.cells #[.pointer (some ⟨b, 0, none⟩), .int .i64 sens] 143 (0, 0)) ∧ BigOwn W b B ws ∧ Bits ws P)

theorem LvAt.lt {W : World} {lb sens : Nat} {has : Bool} {P : Nat → Prop} (h : LvAt W lb sens has P) : lb < W.heap.size := by
  rcases h with ⟨_, h, _⟩ | ⟨_, b, B, ws, h, _⟩
  · exact (Array.getElem?_eq_some_iff.1 h).1
  · exact (Array.getElem?_eq_some_iff.1 h).1
theorem LvAt.below {W W' : World} {lb sens : Nat} {has : Bool} {P : Nat → Prop} (h : LvAt W lb sens has P) (hb : Below W.heap.size W W') : LvAt W' lb sens has P := by
  have hlt := h.lt
  rcases h with ⟨h1, h2, h3⟩ | ⟨h1, b, B, ws, h2, h3, h4⟩
  · exact Or.inl ⟨h1, (hb.block lb hlt).trans h2, h3⟩
  · exact Or.inr ⟨h1, b, B, ws, (hb.block lb hlt).trans h2, h3.below hb, h4⟩
theorem LvAt.mono {W : World} {lb sens : Nat} {has : Bool} {P Q : Nat → Prop} (h : LvAt W lb sens has P) (hpq : ∀ x, P x ↔ Q x) : LvAt W lb sens has Q := by
  rcases h with ⟨h1, h2, h3⟩ | ⟨h1, b, B, ws, h2, h3, h4⟩
  · exact Or.inl ⟨h1, h2, fun x hx => h3 x ((hpq x).2 hx)⟩
  · exact Or.inr ⟨h1, b, B, ws, h2, h3, fun x => (h4 x).trans (hpq x)⟩

theorem BigOwn.setCell {W : World} {b B : Nat} {ws : List Nat} (h : BigOwn W b B ws) {a : Addr} (ha : a.block < b) (u : Value) : BigOwn (W.setCell a u) b B ws := by
  obtain ⟨h0, v, h1, h2, h3, h4⟩ := h
  exact ⟨h0, v, by rw [Below.heap_setCell _ _ _ _ (by omega)]; exact h1, ownsRow_setCell_below h2 (by omega) _, h3, h4⟩
theorem BelowX.setCell {B b : Nat} {w w' : World} (h : BelowX B b w w') (o : Nat) (u : Value) : BelowX B b w (w'.setCell ⟨b, o, none⟩ u) :=
  h.trans ⟨rfl, rfl, rfl, by simp [World.setCell], fun k _ hkb => Below.heap_setCell _ _ _ _ hkb⟩

theorem lvT_none (s : Nat) : CL.lvT s [] = 115 :: Lib.decDigits s := by simp [CL.lvT]
theorem lvT_some (s : Nat) (p : List (Nat × Nat)) (h : p ≠ []) : CL.lvT s p = (115 :: Lib.decDigits s) ++ 58 :: CL.tks p := by simp [CL.lvT, h]
theorem no_colon (n : Nat) : (58 : UInt8) ∉ (115 :: Lib.decDigits n) := by
  intro h
  rcases List.mem_cons.1 h with h | h
  · exact absurd h (by decide)
  · exact CL.not_dg 58 (by omega) (CL.dec_digits _ _ h)

set_option maxRecDepth 100000 in
set_option maxHeartbeats 1000000 in
theorem level_none (lb : Nat) (s : ByteArray) (sens : Nat) (hs : s.data.toList = CL.lvT sens []) (hsens : sens ≤ 9999) (hl : s.size ≤ 900000) (w : World) (hlb : w.heap[lb]? = some (.cells #[.pointer none, .int .i64 0] 143 (0, 0))) :
    Calls Tryz.prog 80 #[.pointer (some ⟨lb, 0, none⟩), .string s] w fun e w' => e = .returned .nilIface ∧ LvAt w' lb sens false (fun _ => False) ∧ BelowX w.heap.size lb w w' := by
  rw [lvT_none] at hs
  have hcm := Lib.hid (cut_miss s 58 (by rw [hs]; exact no_colon sens) (by omega))
  have hit := Lib.hid (item_any s 115 115 rfl sens hs (by omega) (by omega))
  have Hlb : Hid (w.heap[lb]? = some (.cells #[.pointer none, .int .i64 0] 143 (0, 0))) := hlb
  have hlt : lb < w.heap.size := (Array.getElem?_eq_some_iff.1 hlb).1
  clear hs hlb
  go_enter Tryz.func80, Tryz.ntmps80
  go_wp2_with fail
  refine (hcm.out _).mono ?_
  rintro e w2 ⟨rfl, hb2⟩
  go_wp2_with fail
  refine (hit.out _).mono ?_
  rintro e w3 ⟨rfl, hb3⟩
  have hsz2 := hb2.size
  have hsz3 := hb3.size
  have hlb3 : Hid (w3.heap[lb]? = some (.cells #[.pointer none, .int .i64 0] 143 (0, 0))) := (hb3.block lb (by omega)).trans ((hb2.block lb hlt).trans Hlb.out)
  have c1 : w3.cell? ⟨lb, 1, none⟩ = some (.int .i64 0) := row_cell (l := [.pointer none, .int .i64 0]) hlb3.out rfl
  have f1 : w3.frozen? ⟨lb, 1, none⟩ = false := row_free (l := [.pointer none, .int .i64 0]) hlb3.out 1
  go_wp2_with fail
  go_ret
  refine ⟨rfl, Or.inl ⟨rfl, ?_, fun x h => h⟩, ?_⟩
  · rw [heap_setCell_same w3 lb 1 _ _ _ hlb3.out]; rfl
  · refine ((BelowX.of_below hb2).trans (BelowX.of_below (hb3.mono (by omega)))).trans ⟨rfl, rfl, rfl, by simp [World.setCell], fun k hk hkb => Below.heap_setCell _ _ _ _ hkb⟩

set_option maxRecDepth 100000 in
set_option maxHeartbeats 1000000 in
theorem level_some (lb : Nat) (s : ByteArray) (sens : Nat) (p : List (Nat × Nat)) (hp : p ≠ []) (hok : ∀ t ∈ p, CL.tokOk t) (hs : s.data.toList = CL.lvT sens p) (hsens : sens ≤ 9999) (hl : s.size ≤ 900000) (w : World) (hlb : w.heap[lb]? = some (.cells #[.pointer none, .int .i64 0] 143 (0, 0))) :
    Calls Tryz.prog 80 #[.pointer (some ⟨lb, 0, none⟩), .string s] w fun e w' => e = .returned .nilIface ∧ LvAt w' lb sens true (fun x => ∃ t ∈ p, CL.inTok x t) ∧ BelowX w.heap.size lb w w' := by
  rw [lvT_some sens p hp] at hs
  have hcm := Lib.hid (cut_hit s 58 _ _ hs (no_colon sens) (by omega))
  have hss : s.size = 1 + (Lib.decDigits sens).length + 1 + (CL.tks p).length := by rw [Lib.size_eq, hs]; simp; omega
  have Hlb : Hid (w.heap[lb]? = some (.cells #[.pointer none, .int .i64 0] 143 (0, 0))) := hlb
  have hlt : lb < w.heap.size := (Array.getElem?_eq_some_iff.1 hlb).1
  have hl1 : (Lib.decDigits sens).length ≤ 900000 := by omega
  have hl2 : (CL.tks p).length ≤ 900000 := by omega
  clear hs hlb hss
  go_enter Tryz.func80, Tryz.ntmps80
  go_wp2_with fail
  refine (hcm.out _).mono ?_
  rintro e w2 ⟨r1, r2, rfl, hr1, hr2, hb2⟩
  have hit := Lib.hid (item_any r1 115 115 rfl sens hr1.out (by omega) (by rw [Lib.size_eq, hr1.out]; simp; omega))
  have hca := Lib.hid (cats_any r2 p hp hr2.out hok (by rw [Lib.size_eq, hr2.out]; omega))
  go_wp2_with fail
  refine (hit.out _).mono ?_
  rintro e w3 ⟨rfl, hb3⟩
  have hsz2 := hb2.size
  have hsz3 := hb3.size
  have hlb3 : Hid (w3.heap[lb]? = some (.cells #[.pointer none, .int .i64 0] 143 (0, 0))) := (hb3.block lb (by omega)).trans ((hb2.block lb hlt).trans Hlb.out)
  have c1 : w3.cell? ⟨lb, 1, none⟩ = some (.int .i64 0) := row_cell (l := [.pointer none, .int .i64 0]) hlb3.out rfl
  have f1 : w3.frozen? ⟨lb, 1, none⟩ = false := row_free (l := [.pointer none, .int .i64 0]) hlb3.out 1
  go_wp2_with fail
  refine (hca.out _).mono ?_
  rintro e w4 ⟨b, B, ws, rfl, hbb, hbig, hbits, hb4⟩
  have hsz4 : w3.heap.size ≤ w4.heap.size := by have := hb4.size; simpa [World.setCell] using this
  have hlb4 : Hid (w4.heap[lb]? = some (.cells #[.pointer none, .int .i64 sens] 143 (0, 0))) := by
    show _ = _
    rw [hb4.block lb (by simp [World.setCell]; omega), heap_setCell_same w3 lb 1 _ _ _ hlb3.out]; rfl
  have c0 : w4.cell? ⟨lb, 0, none⟩ = some (.pointer none) := row_cell (l := [.pointer none, .int .i64 sens]) hlb4.out rfl
  have f0 : w4.frozen? ⟨lb, 0, none⟩ = false := row_free (l := [.pointer none, .int .i64 sens]) hlb4.out 0
  go_wp2_with fail
  go_ret
  have hlb5 := heap_setCell_same w4 lb 0 _ _ (.pointer (some ⟨b, 0, none⟩)) hlb4.out
  refine ⟨rfl, Or.inr ⟨rfl, b, B, ws, by rw [hlb5]; rfl, ?_, hbits⟩, ?_⟩
  · refine hbig.setCell ?_ _
    have : w3.heap.size ≤ b := by simpa [World.setCell] using hbb
    show lb < b
    omega
  · refine ((BelowX.of_below hb2).trans (BelowX.of_below (hb3.mono (by omega)))).trans ?_
    exact (((BelowX.refl _ lb w3).setCell 1 _).trans (BelowX.of_below (hb4.mono (by simp [World.setCell]; omega)))).setCell 0 _
end Go.Proofs.YtdmggcbbfljciaaGreatDoor
