/- lists of mappings: three texts each; the data of a specification of ports. -/
import Derived.Test.YtdmggcbbfljciaaGreatDoorNRight
import Derived.Test.YtdmggcbbfljciaaGreatDoorF4
namespace Go.Proofs.YtdmggcbbfljciaaGreatDoor
open Go.RowKit Go.Lib

/-- the text of bytes -/
def tx (l : List UInt8) : ByteArray := ⟨l.toArray⟩
theorem tx_list (l : List UInt8) : (tx l).data.toList = l := rfl
theorem tx_of {s : ByteArray} {l : List UInt8} (h : s.data.toList = l) : s = tx l := bytes_ext (h.trans (tx_list l).symm)
theorem tx_size (l : List UInt8) : (tx l).size = l.length := by rw [Lib.size_eq, tx_list]
theorem tx_nil : tx [] = (⟨#[]⟩ : ByteArray) := rfl
theorem tx_app (a b : List UInt8) : tx a ++ tx b = tx (a ++ b) := tx_of (by rw [app_bytes, tx_list, tx_list])
theorem tx_self (s : ByteArray) : tx s.data.toList = s := (tx_of rfl).symm

/-- a mapping: port, address, host -/
abbrev M3 := List UInt8 × List UInt8 × List UInt8
def m3V (l : List M3) : List Value := l.flatMap fun m => [.string (tx m.1), .string (tx m.2.1), .string (tx m.2.2)]
theorem m3V_length (l : List M3) : (m3V l).length = l.length * 3 := by
  induction l with
  | nil => rfl
  | cons a r ih => simp only [m3V, List.flatMap_cons, List.length_append, List.length_cons, List.length_nil] at ih ⊢; omega
theorem m3V_snoc (l : List M3) (m : M3) : m3V (l ++ [m]) = m3V l ++ [.string (tx m.1), .string (tx m.2.1), .string (tx m.2.2)] := by simp [m3V]
theorem m3V_at (l : List M3) : ∀ j, j < l.length → (m3V l)[j * 3]? = some (.string (tx (l.getD j ([], [], [])).1)) ∧ (m3V l)[j * 3 + 1]? = some (.string (tx (l.getD j ([], [], [])).2.1)) ∧ (m3V l)[j * 3 + 2]? = some (.string (tx (l.getD j ([], [], [])).2.2)) := by
  induction l with
  | nil => intro j h; simp at h
  | cons a r ih =>
    intro j h
    cases j with
    | zero => exact ⟨rfl, rfl, rfl⟩
    | succ k =>
      have h' := ih k (by simpa using h)
      have e : ∀ t, (m3V (a :: r))[(k + 1) * 3 + t]? = (m3V r)[k * 3 + t]? := by
        intro t
        have e1 : (k + 1) * 3 + t = (k * 3 + t) + 3 := by omega
        rw [e1]
        rfl
      refine ⟨(e 0).trans h'.1, (e 1).trans h'.2.1, (e 2).trans h'.2.2⟩

/-- block g holds mappings -/
def M3At (w : World) (g : Nat) (l : List M3) : Prop :=
  ∀ j, j < l.length → w.cell? ⟨g, j * 3, none⟩ = some (.string (tx (l.getD j ([], [], [])).1)) ∧ w.cell? ⟨g, j * 3 + 1, none⟩ = some (.string (tx (l.getD j ([], [], [])).2.1)) ∧ w.cell? ⟨g, j * 3 + 2, none⟩ = some (.string (tx (l.getD j ([], [], [])).2.2))

theorem M3At.below {w w' : World} {g : Nat} {l : List M3} (h : M3At w g l) (hb : Below w.heap.size w w') : M3At w' g l := by
  intro j hj
  obtain ⟨h1, h2, h3⟩ := h j hj
  have hl := World.block_lt_of_cell? w _ h1
  exact ⟨(hb.cell (p := ⟨g, j * 3, none⟩) hl).trans h1, (hb.cell (p := ⟨g, j * 3 + 1, none⟩) hl).trans h2, (hb.cell (p := ⟨g, j * 3 + 2, none⟩) hl).trans h3⟩

/-- what a specification of ports says -/
structure Pub where
  a : Nat
  b : Nat
  proto : List UInt8
  ip : List UInt8
  h : Nat
  g : Nat

def sixL (l : List UInt8) : Prop := l = [58, 58, 49] ∨ l = [58, 58] ∨ l = [50, 48, 48, 49, 58, 100, 98, 56, 58, 58, 49] ∨ l = [102, 101, 56, 48, 58, 58, 97]
instance (l : List UInt8) : Decidable (sixL l) := by unfold sixL; infer_instance

structure Pub.Ok (p : Pub) : Prop where
  a1 : 1 ≤ p.a
  ab : p.a ≤ p.b
  b9 : p.b ≤ 65535
  pr : ProtoL p.proto
  n : p.b - p.a ≤ 200
  ip : p.ip = [] ∨ F4.Is p.ip ∨ sixL p.ip
  host : (p.h = 0 ∧ p.g = 0) ∨ (1 ≤ p.h ∧ p.h ≤ p.g ∧ p.g ≤ 65535 ∧ (p.g - p.h = p.b - p.a ∨ (p.b = p.a ∧ p.g - p.h ≤ 200)))

def Pub.ipT (p : Pub) : List UInt8 := if sixL p.ip then 91 :: p.ip ++ [93] else p.ip
def Pub.hostT (p : Pub) : List UInt8 := if p.h = 0 then [] else numT p.h p.g
def Pub.outT (p : Pub) : List UInt8 := numT p.a p.b ++ 47 :: p.proto
def Pub.text (p : Pub) : List UInt8 := if p.ip ≠ [] then p.ipT ++ 58 :: (p.hostT ++ 58 :: p.outT) else if p.hostT ≠ [] then p.hostT ++ 58 :: p.outT else p.outT

def Pub.m (p : Pub) (i : Nat) : M3 := (decDigits (p.a + i) ++ 47 :: p.proto, p.ip, if p.h = 0 then [] else if p.a = p.b then numT p.h p.g else decDigits (p.h + i))
def Pub.ms (p : Pub) : List M3 := (List.range (p.b - p.a + 1)).map p.m
theorem Pub.ms_len (p : Pub) : p.ms.length = p.b - p.a + 1 := by simp [Pub.ms]
theorem Pub.ms_take (p : Pub) (i : Nat) (h : i < p.b - p.a + 1) : p.ms.take (i + 1) = p.ms.take i ++ [p.m i] := by
  rw [List.take_succ_eq_append_getElem (by rw [p.ms_len]; exact h)]
  simp [Pub.ms]
theorem Pub.ms_get (p : Pub) (i : Nat) (h : i < p.b - p.a + 1) : p.ms.getD i ([], [], []) = p.m i := by
  rw [List.getD, List.getElem?_eq_getElem (by rw [p.ms_len]; exact h)]
  simp [Pub.ms]
end Go.Proofs.YtdmggcbbfljciaaGreatDoor
