/- spec.decimal: a number's text. -/
import Derived.Test.YtdmggcbbfljciaaGreatDoorWorks
import Derived.Laws.BytesString
namespace Go.Proofs.YtdmggcbbfljciaaGreatDoor
open Go.RowKit Go.Lib

theorem run_conv_byte (W : World) (b cap : Nat) (x : Int) (h : W.cell? ⟨b, 0, none⟩ = some (.int .u8 x)) :
    (convert 91 9 (.slice (some ⟨b, 0, none⟩) 1 cap)).run Tryz.prog W = .ok (.string ⟨#[UInt8.ofNat x.toNat]⟩) W := by
  rw [run_convert_bytes_string W _ _ 5 _ _ _ (by kernel_rfl) (by kernel_rfl) (by kernel_rfl)]
  rw [run_bytesToString W ⟨b, 0, none⟩ 1 cap [x] ?_]
  · rfl
  · simp [loadCells, h, go_sem]

set_option maxRecDepth 100000 in
set_option maxHeartbeats 2000000 in
theorem decimal_one (n : Nat) (hn : n < 10) (w : World) :
    Calls Tryz.prog 29 #[.int .i64 n] w fun e w' => ∃ r : ByteArray, e = .returned (.string r) ∧ Hid (r.data.toList = decDigits n) ∧ Below w.heap.size w w' := by
  have h1 : decide ((n : Int) < 10) = true := by simp; omega
  have h2 : IntKind.i64.wrap (48 + (n : Int)) = 48 + (n : Int) := by rw [IntKind.wrap_i64]; omega
  have h3 : IntKind.u8.wrap (48 + (n : Int)) = 48 + (n : Int) := by simp [IntKind.wrap, IntKind.bits]; omega
  have h4 := run_conv_byte (w.alloc (.cells #[.int .u8 (48 + (n : Int))] 5)) w.heap.size 1 (48 + (n : Int)) (row_cell (l := [.int .u8 (48 + (n : Int))]) (heap_alloc_new _ _) (j := 0) rfl)
  go_enter Tryz.func29, Tryz.ntmps29
  go_wp2
  go_ret
  exact ⟨_, rfl, by show _ = _; rw [decDigits_one hn], (Below.refl _ _).alloc (Nat.le_refl _) _⟩

set_option maxRecDepth 100000 in
set_option maxHeartbeats 2000000 in
theorem decimal_more (n : Nat) (hn : ¬ n < 10) (hn2 : n ≤ 1073741824) (w : World)
    (ih : ∀ w, Calls Tryz.prog 29 #[.int .i64 ((n : Int) / 10)] w fun e w' => ∃ r : ByteArray, e = .returned (.string r) ∧ Hid (r.data.toList = decDigits (n / 10)) ∧ Below w.heap.size w w') :
    Calls Tryz.prog 29 #[.int .i64 n] w fun e w' => ∃ r : ByteArray, e = .returned (.string r) ∧ Hid (r.data.toList = decDigits n) ∧ Below w.heap.size w w' := by
  have h1 : decide ((n : Int) < 10) = false := by simp; omega
  have h2 : IntKind.i64.wrap (48 + ((n : Int) % 10)) = 48 + ((n : Int) % 10) := by rw [IntKind.wrap_i64]; omega
  have h3 : IntKind.u8.wrap (48 + ((n : Int) % 10)) = 48 + ((n : Int) % 10) := by simp [IntKind.wrap, IntKind.bits]; omega
  have h5 : (n : Int).tdiv 10 = (n : Int) / 10 := by rw [Int.tdiv_eq_ediv_of_nonneg (by omega)]
  have h6 : (n : Int).tmod 10 = (n : Int) % 10 := by rw [Int.tmod_eq_emod_of_nonneg (by omega)]
  have h7 : IntKind.i64.wrap ((n : Int) / 10) = (n : Int) / 10 := by rw [IntKind.wrap_i64]; omega
  have h8 : IntKind.i64.wrap ((n : Int) % 10) = (n : Int) % 10 := by rw [IntKind.wrap_i64]; omega
  have hcv := fun W b c h => run_conv_byte W b c (48 + ((n : Int) % 10)) h
  have hih := Lib.hid ih
  clear ih
  go_enter Tryz.func29, Tryz.ntmps29
  go_wp2
  go_region_with ((go_at_call 29; refine (hih.out _).mono ?_; rintro e w3 ⟨r, rfl, hr, hb3⟩; have hcell := fun k o (h : k < _) => hb3.cell (p := ⟨k, o, none⟩) h; have hsz := size_dec _ (by omega) r hr.out))
  all_goals go_wp2
  all_goals go_ret
  all_goals
    have HB : Below w.heap.size w w3 := by
      first
      | exact ((Below.refl _ w).drew).trans (hb3.mono (Nat.le_refl _))
      | exact ((((Below.refl _ w).alloc (Nat.le_refl _) _)).drew).trans (hb3.mono (by simp))
    have hby : (r ++ ⟨#[48 + UInt8.ofNat (n % 10)]⟩ : ByteArray).data.toList = decDigits n := by
      rw [app_bytes, hr.out, show (48 : UInt8) + UInt8.ofNat (n % 10) = UInt8.ofNat (48 + n % 10) by rw [UInt8.ofNat_add]; rfl]
      conv => rhs; rw [decDigits, dif_neg hn]
  · exact ⟨_, rfl, hby, HB.alloc HB.size _⟩
  · exact ⟨_, rfl, hby, HB⟩
  · exact ⟨_, rfl, hby, HB⟩

theorem decimal_any (n : Nat) (hn : n ≤ 1073741824) : ∀ w,
    Calls Tryz.prog 29 #[.int .i64 n] w fun e w' => ∃ r : ByteArray, e = .returned (.string r) ∧ Hid (r.data.toList = decDigits n) ∧ Below w.heap.size w w' := by
  induction n using Nat.strongRecOn with
  | _ n ih =>
    intro w
    by_cases h : n < 10
    · exact decimal_one n h w
    · exact decimal_more n h hn w (fun w => by have := ih (n / 10) (by omega) (by omega) w; simpa using this)
end Go.Proofs.YtdmggcbbfljciaaGreatDoor
