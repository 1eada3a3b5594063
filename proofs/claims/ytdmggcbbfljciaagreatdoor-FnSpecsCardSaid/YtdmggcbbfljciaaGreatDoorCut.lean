/- index, cut, split of package selabels, at a separator of one byte. -/
import Derived.Test.YtdmggcbbfljciaaGreatDoorProg
import Derived.Test.YtdmggcbbfljciaaGreatDoorCl4
import Derived.WalkKit
import Derived.Tactics
import Derived.KernelRfl
import Derived.Lib.Hide
import Derived.Lib.IndexBytes
import Derived.Lib.Strings
import Derived.WalkSpells
import Derived.LoopTactic
import Derived.Outline
import Derived.WalkSmall
import Derived.Deep.QuietTactic
import Derived.BigQuiet
namespace Go.Proofs.YtdmggcbbfljciaaGreatDoor
open Go.RowKit

theorem one_byte (s : ByteArray) (l : List UInt8) (hs : s.data.toList = l) (k : Nat) (hk : k < l.length) (c : UInt8) : ((s.extract k (k + 1)).toList == [c]) = decide (l.getD k 0 = c) := by
  rw [ByteArray.toList_eq, Lib.extract_data, hs, show k + 1 - k = 1 by omega, List.drop_eq_getElem_cons hk, List.take_succ_cons, List.take_zero]
  have e : l.getD k 0 = l[k] := by simp [List.getD, List.getElem?_eq_getElem hk]
  rw [e, Bool.eq_iff_iff]
  simp

set_option maxRecDepth 100000 in
theorem index_hit (s : ByteArray) (c : UInt8) (a b : List UInt8) (hs : s.data.toList = a ++ c :: b) (ha : c ∉ a) (hl : s.size ≤ 281474976710656) (w : World) :
    Calls Tryz.prog 103 #[.string s, .string ⟨#[c]⟩] w fun e w' => e = .returned (.int .i64 a.length) ∧ w' = w := by
  have hn : s.size = a.length + (b.length + 1) := by rw [Lib.size_eq, hs]; simp
  have HB : Hid (∀ k, k ≤ a.length → ((s.extract k (k + 1)).toList == [c]) = decide (k = a.length)) := by
    intro k hk
    rw [one_byte s _ hs k (by simp; omega) c]
    by_cases h : k = a.length
    · subst h; simp
    · have hk' : k < a.length := by omega
      have e : (a ++ c :: b).getD k 0 = a[k] := by simp [List.getD, List.getElem?_append_left hk', List.getElem?_eq_getElem hk']
      have : a[k] ≠ c := fun h => ha (h ▸ List.getElem_mem hk')
      rw [e]; simp [this, h]
  have h1 : a.length + b.length + 1 ≤ s.size := by omega
  have h2 : s.size ≤ a.length + b.length + 1 := by omega
  clear hs hn
  go_enter Tryz.func103, Tryz.ntmps103
  go_wp2
  go_loop [5] (fun i => ∃ k : Nat, k ≤ a.length ∧ i = .int .i64 k) (fun i => a.length + 1 - (intOf i).toNat)
  case atStart => exact ⟨0, Nat.zero_le _, rfl⟩
  case round =>
    obtain ⟨k, hk, rfl⟩ := hrel
    have hk1 : k + 1 ≤ s.size := by omega
    have hb := HB.out k hk
    by_cases hka : k = a.length
    · subst hka
      rw [decide_eq_true rfl] at hb
      go_wp2
      go_ret
      exact ⟨rfl, rfl⟩
    · rw [decide_eq_false hka] at hb
      go_wp2
      go_round
      case rel => exact ⟨k + 1, by omega, by go_num⟩
      case measure => simp [intOf]; omega

set_option maxRecDepth 100000 in
theorem index_miss (s : ByteArray) (c : UInt8) (ha : c ∉ s.data.toList) (hl : s.size ≤ 281474976710656) (w : World) :
    Calls Tryz.prog 103 #[.string s, .string ⟨#[c]⟩] w fun e w' => e = .returned (.int .i64 (-1)) ∧ w' = w := by
  have HB : Hid (∀ k, k < s.size → ((s.extract k (k + 1)).toList == [c]) = false) := by
    intro k hk
    have hk' : k < s.data.toList.length := by rw [← Lib.size_eq]; exact hk
    rw [one_byte s _ rfl k hk' c]
    have e : s.data.toList.getD k 0 = s.data.toList[k] := by simp [List.getD, List.getElem?_eq_getElem hk']
    have : s.data.toList[k] ≠ c := fun h => ha (h ▸ List.getElem_mem hk')
    rw [e]; exact decide_eq_false this
  clear ha
  go_enter Tryz.func103, Tryz.ntmps103
  go_wp2
  go_loop [5] (fun i => ∃ k : Nat, k ≤ s.size ∧ i = .int .i64 k) (fun i => s.size + 1 - (intOf i).toNat)
  case atStart => exact ⟨0, Nat.zero_le _, rfl⟩
  case round =>
    obtain ⟨k, hk, rfl⟩ := hrel
    by_cases hka : k < s.size
    · have hk1 : k + 1 ≤ s.size := by omega
      have hb := HB.out k hka
      go_wp2
      go_round
      case rel => exact ⟨k + 1, by omega, by go_num⟩
      case measure => simp [intOf]; omega
    · go_wp2
      go_ret
      exact ⟨rfl, rfl⟩

set_option maxRecDepth 100000 in
theorem cut_hit (s : ByteArray) (c : UInt8) (a b : List UInt8) (hs : s.data.toList = a ++ c :: b) (ha : c ∉ a) (hl : s.size ≤ 281474976710656) (w : World) :
    Calls Tryz.prog 79 #[.string s, .string ⟨#[c]⟩] w fun e w' => ∃ r1 r2 : ByteArray, e = .returned (.tuple #[.string r1, .string r2, .bool true]) ∧ Hid (r1.data.toList = a) ∧ Hid (r2.data.toList = b) ∧ Below w.heap.size w w' := by
  have hn : s.size = a.length + (b.length + 1) := by rw [Lib.size_eq, hs]; simp
  have hi := Lib.hid (index_hit s c a b hs ha hl)
  have HR : Hid ((s.extract 0 a.length).data.toList = a ∧ (s.extract (a.length + 1) s.size).data.toList = b) := by
    constructor
    · rw [Lib.extract_data, hs]; simp
    · rw [Lib.extract_data, Lib.size_eq, hs]
      have e : a ++ c :: b = (a ++ [c]) ++ b := by simp
      rw [e, List.drop_left' (by simp), List.take_of_length_le (by simp; omega)]
  have h1 : a.length + b.length + 1 ≤ s.size := by omega
  have h2 : s.size ≤ a.length + b.length + 1 := by omega
  clear hs hn ha
  have e1 : IntKind.i64.wrap ((a.length : Int) + 1) = (a.length : Int) + 1 := by rw [IntKind.wrap_i64]; omega
  have e2 : ((a.length : Int) + 1).toNat = a.length + 1 := by omega
  have e3 : (0 : Int) ≤ (a.length : Int) + 1 := by omega
  have e4 : (a.length : Int) + 1 ≤ (s.size : Int) := by omega
  have e5 : (0 : Int) ≤ (a.length : Int) := by omega
  have e6 : (a.length : Int) ≤ (s.size : Int) := by omega
  go_enter Tryz.func79, Tryz.ntmps79
  go_wp2_with fail
  refine (hi.out _).mono ?_
  rintro e w1 ⟨rfl, rfl⟩
  go_wp2_with fail
  go_quiet (fail)
  go_wp2
  go_ret3
  exact ⟨_, _, rfl, HR.out.1, HR.out.2, below_drewN (Below.refl _ _) _⟩

set_option maxRecDepth 100000 in
theorem cut_miss (s : ByteArray) (c : UInt8) (ha : c ∉ s.data.toList) (hl : s.size ≤ 281474976710656) (w : World) :
    Calls Tryz.prog 79 #[.string s, .string ⟨#[c]⟩] w fun e w' => e = .returned (.tuple #[.string s, .string ⟨#[]⟩, .bool false]) ∧ Below w.heap.size w w' := by
  have hi := Lib.hid (index_miss s c ha hl)
  clear ha
  go_enter Tryz.func79, Tryz.ntmps79
  go_wp2_with fail
  refine (hi.out _).mono ?_
  rintro e w1 ⟨rfl, rfl⟩
  go_wp2_with fail
  go_ret3
  exact ⟨rfl, Below.refl _ _⟩
end Go.Proofs.YtdmggcbbfljciaaGreatDoor
