/- a text of four numbers below 256 with points between: pure. -/
import Derived.Test.YtdmggcbbfljciaaGreatDoorPort2
import Derived.Test.YtdmggcbbfljciaaGreatDoorNRight
import Derived.Test.YtdmggcbbfljciaaGreatDoorNCut
import Derived.Test.YtdmggcbbfljciaaGreatDoorSplit
namespace Go.Proofs.YtdmggcbbfljciaaGreatDoor
open Go.RowKit Go.Lib
namespace F4

/-- a step: the number, the groups, the digits of this group -/
def step (n g d c : Nat) : Option (Nat × Nat × Nat) :=
  if c = 46 then (if d = 0 then none else some (0, g + 1, 0))
  else if 48 ≤ c ∧ c ≤ 57 then (if (0 < d ∧ n = 0) ∨ 10 * n + (c - 48) > 255 then none else some (10 * n + (c - 48), g, d + 1))
  else none

def run : List UInt8 → Nat × Nat × Nat → Option (Nat × Nat × Nat)
  | [], st => some st
  | c :: r, st => (step st.1 st.2.1 st.2.2 c.toNat).bind (run r)

theorem run_append (a b : List UInt8) : ∀ st, run (a ++ b) st = (run a st).bind (run b) := by
  induction a with
  | nil => intro st; rfl
  | cons c r ih =>
    intro st
    show (step _ _ _ _).bind (run (r ++ b)) = ((step _ _ _ _).bind (run r)).bind (run b)
    cases step st.1 st.2.1 st.2.2 c.toNat with
    | none => rfl
    | some x => exact ih x

/-- a text of four figures' groups -/
def Is (l : List UInt8) : Prop := ∃ n d, run l (0, 1, 0) = some (n, 4, d) ∧ 0 < d

/-- the state behind i bytes -/
def At (l : List UInt8) (i n g d : Nat) : Prop := run (l.take i) (0, 1, 0) = some (n, g, d)

theorem At.zero (l : List UInt8) : At l 0 0 1 0 := rfl

theorem take_next (l : List UInt8) (i : Nat) (h : i < l.length) : l.take (i + 1) = l.take i ++ [l.getD i 0] := by
  rw [List.take_succ_eq_append_getElem h]
  simp [List.getD, List.getElem?_eq_getElem h]

theorem At.next {l : List UInt8} {i n g d : Nat} (h : At l i n g d) (hi : i < l.length) : run (l.take (i + 1)) (0, 1, 0) = step n g d (l.getD i 0).toNat := by
  rw [take_next l i hi, run_append, h]
  show (step n g d (l.getD i 0).toNat).bind (run []) = _
  cases step n g d (l.getD i 0).toNat <;> rfl

theorem run_mono (r : List UInt8) : ∀ st st', run r st = some st' → st.2.1 ≤ st'.2.1 := by
  induction r with
  | nil => intro st st' h; cases h; exact Nat.le_refl _
  | cons c r ih =>
    intro st st' h
    cases hs : step st.1 st.2.1 st.2.2 c.toNat with
    | none => rw [run, hs] at h; cases h
    | some x =>
      rw [run, hs] at h
      have h1 := ih x st' h
      have h2 : st.2.1 ≤ x.2.1 := by
        unfold step at hs
        split at hs
        · split at hs
          · cases hs
          · cases hs; exact Nat.le_succ _
        · split at hs
          · split at hs
            · cases hs
            · cases hs; exact Nat.le_refl _
          · cases hs
      exact Nat.le_trans h2 h1

/-- a text that is one has a state behind each of its bytes -/
theorem Is.at_ {l : List UInt8} (h : Is l) (i : Nat) : ∃ n g d n' d', At l i n g d ∧ run (l.drop i) (n, g, d) = some (n', 4, d') ∧ 0 < d' ∧ g ≤ 4 := by
  obtain ⟨n', d', h1, h2⟩ := h
  have e : l = l.take i ++ l.drop i := (List.take_append_drop i l).symm
  rw [e, run_append] at h1
  cases hr : run (l.take i) (0, 1, 0) with
  | none => rw [hr] at h1; cases h1
  | some x =>
    obtain ⟨n, g, d⟩ := x
    rw [hr] at h1
    exact ⟨n, g, d, n', d', hr, h1, h2, run_mono _ _ _ h1⟩

theorem At.inj {l : List UInt8} {i n g d n' g' d' : Nat} (h : At l i n g d) (h' : At l i n' g' d') : n = n' ∧ g = g' ∧ d = d' := by
  unfold At at h h'
  rw [h] at h'
  simp only [Option.some.injEq, Prod.mk.injEq] at h'
  exact h'

/-- what a step says of the byte -/
theorem step_some {n g d c : Nat} {st : Nat × Nat × Nat} (h : step n g d c = some st) : (c = 46 ∧ 0 < d ∧ st = (0, g + 1, 0)) ∨ (48 ≤ c ∧ c ≤ 57 ∧ ¬ (0 < d ∧ n = 0) ∧ 10 * n + (c - 48) ≤ 255 ∧ st = (10 * n + (c - 48), g, d + 1)) := by
  unfold step at h
  split at h
  · rename_i hc
    split at h
    · cases h
    · rename_i hd
      cases h
      exact Or.inl ⟨hc, Nat.pos_of_ne_zero hd, rfl⟩
  · split at h
    · rename_i hc
      split at h
      · cases h
      · rename_i hn
        cases h
        exact Or.inr ⟨hc.1, hc.2, fun e => hn (Or.inl e), Nat.le_of_not_lt fun e => hn (Or.inr e), rfl⟩
    · cases h

/-- the next byte of a text that is one -/
theorem Is.next {l : List UInt8} (h : Is l) {i n g d : Nat} (ha : At l i n g d) (hi : i < l.length) :
    ((l.getD i 0).toNat = 46 ∧ 0 < d ∧ g ≤ 3 ∧ i + 1 < l.length ∧ At l (i + 1) 0 (g + 1) 0) ∨
    (48 ≤ (l.getD i 0).toNat ∧ (l.getD i 0).toNat ≤ 57 ∧ ¬ (0 < d ∧ n = 0) ∧ 10 * n + ((l.getD i 0).toNat - 48) ≤ 255 ∧ At l (i + 1) (10 * n + ((l.getD i 0).toNat - 48)) g (d + 1)) := by
  obtain ⟨n1, g1, d1, n', d', h1, h2, h3, h4⟩ := h.at_ (i + 1)
  have hs := ha.next hi
  rw [h1] at hs
  rcases step_some hs.symm with ⟨e1, e2, e3⟩ | ⟨e1, e2, e3, e4, e5⟩
  · simp only [Prod.mk.injEq] at e3
    obtain ⟨rfl, rfl, rfl⟩ := e3
    refine Or.inl ⟨e1, e2, by omega, ?_, h1⟩
    apply Nat.lt_of_not_le
    intro hle
    rw [List.drop_eq_nil_of_le hle] at h2
    simp only [run, Option.some.injEq, Prod.mk.injEq] at h2
    omega
  · simp only [Prod.mk.injEq] at e5
    obtain ⟨rfl, rfl, rfl⟩ := e5
    exact Or.inr ⟨e1, e2, e3, e4, h1⟩

/-- a group without a digit is at the beginning, or behind a point -/
theorem At.digits {l : List UInt8} {i n g d : Nat} (h : At l (i + 1) n g d) (hi : i < l.length) (hd : 0 < d) : (l.getD i 0).toNat ≠ 46 := by
  unfold At at h
  rw [take_next l i hi, run_append] at h
  cases hr : run (l.take i) (0, 1, 0) with
  | none => rw [hr] at h; cases h
  | some x =>
    rw [hr] at h
    have h' : (step x.1 x.2.1 x.2.2 (l.getD i 0).toNat).bind (run []) = some (n, g, d) := h
    cases hs : step x.1 x.2.1 x.2.2 (l.getD i 0).toNat with
    | none => rw [hs] at h'; cases h'
    | some y =>
      rw [hs] at h'
      have h2 : y = (n, g, d) := by simpa [run] using h'
      intro e
      rcases step_some hs with ⟨_, _, e3⟩ | ⟨e1, _⟩
      · rw [h2] at e3; simp only [Prod.mk.injEq] at e3; omega
      · omega

/-- how long it may be -/
theorem At.len {l : List UInt8} : ∀ {i n g d : Nat}, At l i n g d → i ≤ l.length → 1 ≤ g ∧ d ≤ 3 ∧ n ≤ 255 ∧ (d = 2 → 10 ≤ n) ∧ (d = 3 → 100 ≤ n) ∧ i + 4 ≤ 4 * g + d := by
  intro i
  induction i with
  | zero =>
    intro n g d h _
    have := At.inj h (At.zero l)
    omega
  | succ i ih =>
    intro n g d h hi
    unfold At at h
    have hi' : i < l.length := hi
    cases hr : run (l.take i) (0, 1, 0) with
    | none => rw [take_next l i hi', run_append, hr] at h; cases h
    | some x =>
      obtain ⟨n0, g0, d0⟩ := x
      have h0 := ih (show At l i n0 g0 d0 from hr) (by omega)
      have hn := At.next (show At l i n0 g0 d0 from hr) hi'
      rw [h] at hn
      rcases step_some hn.symm with ⟨e1, e2, e3⟩ | ⟨e1, e2, e3, e4, e5⟩
      · simp only [Prod.mk.injEq] at e3
        omega
      · simp only [Prod.mk.injEq] at e5
        omega

theorem Is.len {l : List UInt8} (h : Is l) : l.length ≤ 15 := by
  obtain ⟨n, d, h1, h2⟩ := h
  have h3 : At l l.length n 4 d := by unfold At; rw [List.take_length]; exact h1
  have := h3.len (Nat.le_refl _)
  omega

/-- its bytes are figures and points -/
theorem Is.byte {l : List UInt8} (h : Is l) (i : Nat) (hi : i < l.length) : (l.getD i 0).toNat = 46 ∨ (48 ≤ (l.getD i 0).toNat ∧ (l.getD i 0).toNat ≤ 57) := by
  obtain ⟨n, g, d, _, _, ha, _⟩ := h.at_ i
  rcases h.next ha hi with h | h
  · exact Or.inl h.1
  · exact Or.inr ⟨h.1, h.2.1⟩

theorem Is.no {l : List UInt8} (h : Is l) (c : UInt8) (hc : c.toNat ≠ 46 ∧ ¬ (48 ≤ c.toNat ∧ c.toNat ≤ 57)) : c ∉ l := by
  intro hm
  obtain ⟨i, hi, rfl⟩ := List.getElem_of_mem hm
  have := h.byte i hi
  rw [List.getD, List.getElem?_eq_getElem hi, Option.getD_some] at this
  omega

theorem Is.ne {l : List UInt8} (h : Is l) : l ≠ [] := by
  rintro rfl
  obtain ⟨n, d, h1, h2⟩ := h
  simp [run] at h1

/-- it has a point -/
theorem Is.point {l : List UInt8} (h : Is l) : (46 : UInt8) ∈ l := by
  obtain ⟨n, d, h1, h2⟩ := h
  apply Classical.byContradiction
  intro hno
  have key : ∀ (r : List UInt8) (st st' : Nat × Nat × Nat), (46 : UInt8) ∉ r → run r st = some st' → st'.2.1 = st.2.1 := by
    intro r
    induction r with
    | nil => intro st st' _ h; cases h; rfl
    | cons c r ih =>
      intro st st' hm h
      cases hs : step st.1 st.2.1 st.2.2 c.toNat with
      | none => rw [run, hs] at h; cases h
      | some x =>
        rw [run, hs] at h
        have e := ih x st' (fun e => hm (List.mem_cons_of_mem _ e)) h
        rcases step_some hs with ⟨e1, _⟩ | ⟨_, _, _, _, e5⟩
        · exfalso
          apply hm
          have : c = 46 := UInt8.toNat_inj.1 e1
          rw [this]; exact List.mem_cons_self ..
        · rw [e, e5]
  have := key l _ _ hno h1
  simp at this
end F4
end Go.Proofs.YtdmggcbbfljciaaGreatDoor

/- lists of mappings: three texts each; the data of a specification of ports. -/
namespace Go.Proofs.YtdmggcbbfljciaaGreatDoor
open Go.RowKit Go.Lib

/-- the text of bytes -/
def tx (l : List UInt8) : ByteArray := ⟨l.toArray⟩
theorem tx_list (l : List UInt8) : (tx l).data.toList = l := rfl
theorem tx_of {s : ByteArray} {l : List UInt8} (h : s.data.toList = l) : s = tx l := bytes_ext (h.trans (tx_list l).symm)
theorem tx_size (l : List UInt8) : (tx l).size = l.length := by rw [Lib.size_eq, tx_list]
theorem tx_nil : tx [] = (⟨#[]⟩ : ByteArray) := rfl
theorem tx_app (a b : List UInt8) : tx a ++ tx b = tx (a ++ b) := tx_of (by rw [app_bytes, tx_list, tx_list])
theorem tx_self (s : ByteArray) : tx s.data.toList = s := (tx_of rfl).symm

/-- a mapping: port, address, host -/
abbrev M3 := List UInt8 × List UInt8 × List UInt8
def m3V (l : List M3) : List Value := l.flatMap fun m => [.string (tx m.1), .string (tx m.2.1), .string (tx m.2.2)]
theorem m3V_length (l : List M3) : (m3V l).length = l.length * 3 := by
  induction l with
  | nil => rfl
  | cons a r ih => simp only [m3V, List.flatMap_cons, List.length_append, List.length_cons, List.length_nil] at ih ⊢; omega
theorem m3V_snoc (l : List M3) (m : M3) : m3V (l ++ [m]) = m3V l ++ [.string (tx m.1), .string (tx m.2.1), .string (tx m.2.2)] := by simp [m3V]
theorem m3V_at (l : List M3) : ∀ j, j < l.length → (m3V l)[j * 3]? = some (.string (tx (l.getD j ([], [], [])).1)) ∧ (m3V l)[j * 3 + 1]? = some (.string (tx (l.getD j ([], [], [])).2.1)) ∧ (m3V l)[j * 3 + 2]? = some (.string (tx (l.getD j ([], [], [])).2.2)) := by
  induction l with
  | nil => intro j h; simp at h
  | cons a r ih =>
    intro j h
    cases j with
    | zero => exact ⟨rfl, rfl, rfl⟩
    | succ k =>
      have h' := ih k (by simpa using h)
      have e : ∀ t, (m3V (a :: r))[(k + 1) * 3 + t]? = (m3V r)[k * 3 + t]? := by
        intro t
        have e1 : (k + 1) * 3 + t = (k * 3 + t) + 3 := by omega
        rw [e1]
        rfl
      refine ⟨(e 0).trans h'.1, (e 1).trans h'.2.1, (e 2).trans h'.2.2⟩

/-- block g holds mappings -/
def M3At (w : World) (g : Nat) (l : List M3) : Prop :=
  ∀ j, j < l.length → w.cell? ⟨g, j * 3, none⟩ = some (.string (tx (l.getD j ([], [], [])).1)) ∧ w.cell? ⟨g, j * 3 + 1, none⟩ = some (.string (tx (l.getD j ([], [], [])).2.1)) ∧ w.cell? ⟨g, j * 3 + 2, none⟩ = some (.string (tx (l.getD j ([], [], [])).2.2))

theorem M3At.below {w w' : World} {g : Nat} {l : List M3} (h : M3At w g l) (hb : Below w.heap.size w w') : M3At w' g l := by
  intro j hj
  obtain ⟨h1, h2, h3⟩ := h j hj
  have hl := World.block_lt_of_cell? w _ h1
  exact ⟨(hb.cell (p := ⟨g, j * 3, none⟩) hl).trans h1, (hb.cell (p := ⟨g, j * 3 + 1, none⟩) hl).trans h2, (hb.cell (p := ⟨g, j * 3 + 2, none⟩) hl).trans h3⟩

/-- what a specification of ports says -/
structure Pub where
  a : Nat
  b : Nat
  proto : List UInt8
  ip : List UInt8
  h : Nat
  g : Nat

def sixL (l : List UInt8) : Prop := l = [58, 58, 49] ∨ l = [58, 58] ∨ l = [50, 48, 48, 49, 58, 100, 98, 56, 58, 58, 49] ∨ l = [102, 101, 56, 48, 58, 58, 97]
instance (l : List UInt8) : Decidable (sixL l) := by unfold sixL; infer_instance

structure Pub.Ok (p : Pub) : Prop where
  a1 : 1 ≤ p.a
  ab : p.a ≤ p.b
  b9 : p.b ≤ 65535
  pr : ProtoL p.proto
  n : p.b - p.a ≤ 200
  ip : p.ip = [] ∨ F4.Is p.ip ∨ sixL p.ip
  host : (p.h = 0 ∧ p.g = 0) ∨ (1 ≤ p.h ∧ p.h ≤ p.g ∧ p.g ≤ 65535 ∧ (p.g - p.h = p.b - p.a ∨ (p.b = p.a ∧ p.g - p.h ≤ 200)))

def Pub.ipT (p : Pub) : List UInt8 := if sixL p.ip then 91 :: p.ip ++ [93] else p.ip
def Pub.hostT (p : Pub) : List UInt8 := if p.h = 0 then [] else numT p.h p.g
def Pub.outT (p : Pub) : List UInt8 := numT p.a p.b ++ 47 :: p.proto
def Pub.text (p : Pub) : List UInt8 := if p.ip ≠ [] then p.ipT ++ 58 :: (p.hostT ++ 58 :: p.outT) else if p.hostT ≠ [] then p.hostT ++ 58 :: p.outT else p.outT

def Pub.m (p : Pub) (i : Nat) : M3 := (decDigits (p.a + i) ++ 47 :: p.proto, p.ip, if p.h = 0 then [] else if p.a = p.b then numT p.h p.g else decDigits (p.h + i))
def Pub.ms (p : Pub) : List M3 := (List.range (p.b - p.a + 1)).map p.m
theorem Pub.ms_len (p : Pub) : p.ms.length = p.b - p.a + 1 := by simp [Pub.ms]
theorem Pub.ms_take (p : Pub) (i : Nat) (h : i < p.b - p.a + 1) : p.ms.take (i + 1) = p.ms.take i ++ [p.m i] := by
  rw [List.take_succ_eq_append_getElem (by rw [p.ms_len]; exact h)]
  simp [Pub.ms]
theorem Pub.ms_get (p : Pub) (i : Nat) (h : i < p.b - p.a + 1) : p.ms.getD i ([], [], []) = p.m i := by
  rw [List.getD, List.getElem?_eq_getElem (by rw [p.ms_len]; exact h)]
  simp [Pub.ms]
end Go.Proofs.YtdmggcbbfljciaaGreatDoor

/- splitN of package nat, at a separator of one byte: the pieces. -/
namespace Go.Proofs.YtdmggcbbfljciaaGreatDoor
open Go.RowKit

set_option maxRecDepth 100000 in
set_option maxHeartbeats 2000000 in
theorem nsplitN_any (s : ByteArray) (c : UInt8) (n : Int) (ps : List CL.Bs) (hp : ps ≠ []) (hs : s.data.toList = CL.joinC c ps) (hno : ∀ k, k + 1 < ps.length → c ∉ ps.getD k []) (hlast : c ∉ ps.getD (ps.length - 1) [] ∨ n = ps.length) (hn : n < 0 ∨ (ps.length : Int) ≤ n) (hn2 : n ≤ 1000000) (hl : s.size ≤ 1099511627776) (w : World) :
    Calls Tryz.prog 85 #[.string s, .string ⟨#[c]⟩, .int .i64 n] w fun e w' => ∃ (v : Value) (ss : List ByteArray), e = .returned v ∧ w'.ownsRow w.heap.size 9 1 v ss.length (strsV ss) ∧ Hid (ss.map (fun x => x.data.toList) = ps) ∧ Below w.heap.size w w' := by
  obtain ⟨i0, hi, hz0, hz1, hz2⟩ := info_parts info9
  have hpl : ps.length ≤ s.size + 1 := by rw [Lib.size_eq, hs]; exact joinC_len c ps
  have hp0 := List.length_pos_iff.2 hp
  have HS : Hid (SplAt c ps 0 s []) := ⟨hp0, by simpa using hs, by simp⟩
  have hn3 : -1000000000 < n ∨ n ≤ -1000000000 := by omega
  clear hs hp
  go_enter Tryz.func85, Tryz.ntmps85
  go_wp2
  go_loopg [0, 7] (ps.length) (fun m sv ov wr => ∃ (k : Nat) (sk : ByteArray) (ss : List ByteArray), sv = .string sk ∧ m + k = ps.length ∧ ss.length = k ∧ Hid (SplAt c ps k sk ss) ∧ sk.size ≤ s.size ∧ wr.ownsRow w.heap.size 9 1 ov ss.length (strsV ss) ∧ Below w.heap.size w wr)
  case atStart => exact ⟨0, s, [], rfl, rfl, rfl, HS, Nat.le_refl _, World.ownsRow_nil _ _ _ _, Below.refl _ _⟩
  case round =>
    obtain ⟨k, sk, ss, rfl, hgk, hssk, hat, hsk, hown, hbel⟩ := hrel
    have Hgk : Hid (gk + k = ps.length) := hgk
    have Hssk : Hid (ss.length = k) := hssk
    have hkl := hat.out.lt
    have hss1 : ss.length ≤ k := by omega
    have hss2 : k ≤ ss.length := by omega
    have hws := hbel.size
    clear hgk hssk
    obtain ⟨ao, cc, rfl⟩ := owns_shape' hown
    by_cases hk : k + 1 < ps.length
    · have hc := hat.out.cons hk
      have ha := hno k hk
      obtain ⟨a, hA⟩ : ∃ a, a = ps.getD k [] := ⟨_, rfl⟩
      rw [← hA] at hc ha
      have HA : Hid (a = ps.getD k []) := hA
      have hal : a.length + 1 ≤ sk.size := by rw [Lib.size_eq, hc]; simp
      have hix := Lib.hid (nindex_hit sk c a _ hc ha (by omega))
      clear hc ha hA
      have e2 : ((a.length : Int) + 1).toNat = a.length + 1 := by omega
      have hcond : n < 0 ∨ (ss.length : Int) < n - 1 := by omega
      have fin : ∀ (v' : Value) (w2 : World), w2.ownsRow w.heap.size 9 1 v' (ss.length + 1) (strsV ss ++ [.string (sk.extract 0 a.length)]) → (wr.alloc (.cells #[.string (sk.extract 0 a.length)] 9)).grownBy w2 (Value.slice ao ss.length cc).ownBlock →
          ∃ (k' : Nat) (sk' : ByteArray) (ss' : List ByteArray), Value.string (sk.extract (a.length + 1) sk.size) = .string sk' ∧ (gk - 1) + k' = ps.length ∧ ss'.length = k' ∧ Hid (SplAt c ps k' sk' ss') ∧ sk'.size ≤ s.size ∧ w2.ownsRow w.heap.size 9 1 v' ss'.length (strsV ss') ∧ Below w.heap.size w w2 := by
        intro v' w2 hown2 hgrow2
        have h1 := Hgk.out
        have h2 := Hssk.out
        refine ⟨k + 1, _, ss ++ [sk.extract 0 a.length], rfl, by omega, by simp; omega, hat.out.step hk a.length (by rw [HA.out]), ?_, ?_, ?_⟩
        · rw [Lib.size_eq, Lib.extract_to_end, List.length_drop]
          rw [Lib.size_eq sk] at hsk
          omega
        · have e : strsV (ss ++ [sk.extract 0 a.length]) = strsV ss ++ [.string (sk.extract 0 a.length)] := by simp [strsV]
          rw [e, List.length_append]
          exact hown2
        · exact (hbel.alloc hws _).grown hgrow2 (by simp; omega) (own_block_ge hown)
      have Fin := Lib.hid fin
      clear fin
      by_cases hneg : n < 0
      · have hb1 : decide (n < 0) = true := decide_eq_true hneg
        go_wp2_with fail
        refine (hix.out _).mono ?_
        rintro e w1 ⟨rfl, rfl⟩
        go_wp2_with (at_builtin; refine wpList_append_own _ rfl (.tmp 23) (.tmp 27) 45 rfl w.heap.size 9 i0 (.string ⟨#[]⟩) 1 16 Tryz.underlying45 hi hz0 hz1 hz2 rfl (by decide) _ _ _ rfl (hown.alloc _) ⟨w1.heap.size, 0, none⟩ 1 1 [.string (sk.extract 0 a.length)] rfl rfl (cell_one_new _ _ _) (one_str _) (by unfold maxLen; omega) (by omega) (by simp; omega) ?_; intro v' w2 hown2 hgrow2 _)
        go_roundg (gk - 1)
        case measure => have := Hgk.out; omega
        case rel => exact Fin.out _ _ hown2 hgrow2
      · have hb1 : decide (n < 0) = false := decide_eq_false hneg
        have hb2 : decide ((ss.length : Int) < n - 1) = true := by simp; omega
        go_wp2_with fail
        refine (hix.out _).mono ?_
        rintro e w1 ⟨rfl, rfl⟩
        go_wp2_with (at_builtin; refine wpList_append_own _ rfl (.tmp 23) (.tmp 27) 45 rfl w.heap.size 9 i0 (.string ⟨#[]⟩) 1 16 Tryz.underlying45 hi hz0 hz1 hz2 rfl (by decide) _ _ _ rfl (hown.alloc _) ⟨w1.heap.size, 0, none⟩ 1 1 [.string (sk.extract 0 a.length)] rfl rfl (cell_one_new _ _ _) (one_str _) (by unfold maxLen; omega) (by omega) (by simp; omega) ?_; intro v' w2 hown2 hgrow2 _)
        go_roundg (gk - 1)
        case measure => have := Hgk.out; omega
        case rel => exact Fin.out _ _ hown2 hgrow2
    · have hk1 : k + 1 = ps.length := by omega
      have hsl := hat.out.last hk1
      have fin : ∀ (v' : Value) (w2 : World), w2.ownsRow w.heap.size 9 1 v' (ss.length + 1) (strsV ss ++ [.string sk]) → (wr.alloc (.cells #[.string sk] 9)).grownBy w2 (Value.slice ao ss.length cc).ownBlock →
          w2.ownsRow w.heap.size 9 1 v' (ss ++ [sk]).length (strsV (ss ++ [sk])) ∧ Hid ((ss ++ [sk]).map (fun x => x.data.toList) = ps) ∧ Below w.heap.size w w2 := by
        intro v' w2 hown2 hgrow2
        refine ⟨?_, hat.out.fin hk1, (hbel.alloc hws _).grown hgrow2 (by simp; omega) (own_block_ge hown)⟩
        have e : strsV (ss ++ [sk]) = strsV ss ++ [.string sk] := by simp [strsV]
        rw [e, List.length_append]
        exact hown2
      have Fin := Lib.hid fin
      clear fin
      by_cases hex : 0 ≤ n ∧ ¬ (ss.length : Int) < n - 1
      · obtain ⟨x1, x2⟩ := hex
        have hb1 : decide (n < 0) = false := decide_eq_false (by omega)
        have hb2 : decide ((ss.length : Int) < n - 1) = false := decide_eq_false x2
        clear hsl hlast hno hk1
        go_wp2_with (at_builtin; refine wpList_append_own _ rfl (.tmp 35) (.tmp 37) 45 rfl w.heap.size 9 i0 (.string ⟨#[]⟩) 1 16 Tryz.underlying45 hi hz0 hz1 hz2 rfl (by decide) _ _ _ rfl (hown.alloc _) ⟨wr.heap.size, 0, none⟩ 1 1 [.string sk] rfl rfl (cell_one_new _ _ _) (one_str _) (by unfold maxLen; omega) (by omega) (by simp; omega) ?_; intro v' w2 hown2 hgrow2 _)
        go_ret
        exact ⟨_, rfl, ss ++ [sk], Fin.out _ _ hown2 hgrow2⟩
      · have hmiss : c ∉ sk.data.toList := by
          rw [hsl]
          rcases hlast with h | h
          · rw [← hk1, Nat.add_sub_cancel] at h; exact h
          · exfalso; omega
        have hix := Lib.hid (nindex_miss sk c hmiss (by omega))
        clear hmiss hsl hlast hno hk1
        by_cases hneg : n < 0
        · have hb1 : decide (n < 0) = true := decide_eq_true hneg
          go_wp2_with fail
          refine (hix.out _).mono ?_
          rintro e w1 ⟨rfl, rfl⟩
          go_wp2_with (at_builtin; refine wpList_append_own _ rfl (.tmp 35) (.tmp 37) 45 rfl w.heap.size 9 i0 (.string ⟨#[]⟩) 1 16 Tryz.underlying45 hi hz0 hz1 hz2 rfl (by decide) _ _ _ rfl (hown.alloc _) ⟨w1.heap.size, 0, none⟩ 1 1 [.string sk] rfl rfl (cell_one_new _ _ _) (one_str _) (by unfold maxLen; omega) (by omega) (by simp; omega) ?_; intro v' w2 hown2 hgrow2 _)
          go_ret
          exact ⟨_, ss ++ [sk], rfl, Fin.out _ _ hown2 hgrow2⟩
        · have hb1 : decide (n < 0) = false := decide_eq_false hneg
          have hlt : (ss.length : Int) < n - 1 := by omega
          have hb2 : decide ((ss.length : Int) < n - 1) = true := decide_eq_true hlt
          go_wp2_with fail
          refine (hix.out _).mono ?_
          rintro e w1 ⟨rfl, rfl⟩
          go_wp2_with (at_builtin; refine wpList_append_own _ rfl (.tmp 35) (.tmp 37) 45 rfl w.heap.size 9 i0 (.string ⟨#[]⟩) 1 16 Tryz.underlying45 hi hz0 hz1 hz2 rfl (by decide) _ _ _ rfl (hown.alloc _) ⟨w1.heap.size, 0, none⟩ 1 1 [.string sk] rfl rfl (cell_one_new _ _ _) (one_str _) (by unfold maxLen; omega) (by omega) (by simp; omega) ?_; intro v' w2 hown2 hgrow2 _)
          go_ret
          exact ⟨_, ss ++ [sk], rfl, Fin.out _ _ hown2 hgrow2⟩

/-- split: every piece. -/
theorem nsplit_any (s : ByteArray) (c : UInt8) (ps : List CL.Bs) (hp : ps ≠ []) (hs : s.data.toList = CL.joinC c ps) (hno : ∀ p ∈ ps, c ∉ p) (hl : s.size ≤ 1099511627776) (w : World) :
    Calls Tryz.prog 54 #[.string s, .string ⟨#[c]⟩] w fun e w' => ∃ (v : Value) (ss : List ByteArray), e = .returned v ∧ w'.ownsRow w.heap.size 9 1 v ss.length (strsV ss) ∧ Hid (ss.map (fun x => x.data.toList) = ps) ∧ Below w.heap.size w w' := by
  have hno' : ∀ k, k < ps.length → c ∉ ps.getD k [] := by
    intro k hk
    have e : ps.getD k [] = ps[k] := by simp [List.getD, List.getElem?_eq_getElem hk]
    rw [e]; exact hno _ (List.getElem_mem hk)
  have hp0 := List.length_pos_iff.2 hp
  have hc := Lib.hid (nsplitN_any s c (-1) ps hp hs (fun k hk => hno' k (by omega)) (Or.inl (hno' _ (by omega))) (Or.inl (by decide)) (by decide) hl)
  clear hs hno hno' hp0
  go_enter Tryz.func54, Tryz.ntmps54
  go_wp2_with fail
  refine (hc.out _).mono ?_
  rintro e w1 ⟨v, ss, rfl, h1, h2, h3⟩
  go_wp2_with fail
  go_ret
  exact ⟨v, ss, rfl, h1, h2, h3⟩
end Go.Proofs.YtdmggcbbfljciaaGreatDoor

/- a specification's text, cut at its colons: pure. -/
namespace Go.Proofs.YtdmggcbbfljciaaGreatDoor
open Go.RowKit Go.Lib

/-- the pieces of an address of the sixth version in brackets -/
def sixP (l : List UInt8) : List (List UInt8) :=
  if l = [58, 58, 49] then [[91], [], [49, 93]]
  else if l = [58, 58] then [[91], [], [93]]
  else if l = [50, 48, 48, 49, 58, 100, 98, 56, 58, 58, 49] then [[91, 50, 48, 48, 49], [100, 98, 56], [], [49, 93]]
  else [[91, 102, 101, 56, 48], [], [97, 93]]

theorem six_cases {P : List UInt8 → Prop} (h1 : P [58, 58, 49]) (h2 : P [58, 58]) (h3 : P [50, 48, 48, 49, 58, 100, 98, 56, 58, 58, 49]) (h4 : P [102, 101, 56, 48, 58, 58, 97]) : ∀ l, sixL l → P l := by
  rintro l (rfl | rfl | rfl | rfl)
  · exact h1
  · exact h2
  · exact h3
  · exact h4

theorem sixP_join (l : List UInt8) (h : sixL l) : CL.joinC 58 (sixP l) = 91 :: l ++ [93] := by
  revert l; exact six_cases (by decide) (by decide) (by decide) (by decide)
theorem sixP_no (l : List UInt8) (h : sixL l) : ∀ p ∈ sixP l, (58 : UInt8) ∉ p := by
  revert l; exact six_cases (by decide) (by decide) (by decide) (by decide)
theorem sixP_len (l : List UInt8) (h : sixL l) : 3 ≤ (sixP l).length ∧ (sixP l).length ≤ 4 := by
  revert l; exact six_cases (by decide) (by decide) (by decide) (by decide)
theorem six_no (l : List UInt8) (h : sixL l) : (91 : UInt8) ∉ l ∧ (93 : UInt8) ∉ l ∧ (37 : UInt8) ∉ l ∧ (46 : UInt8) ∉ l ∧ l ≠ [] ∧ l.length ≤ 11 := by
  revert l; exact six_cases (by decide) (by decide) (by decide) (by decide)

theorem f4_six {l : List UInt8} (h : F4.Is l) : ¬ sixL l := by
  intro hs
  exact (six_no l hs).2.2.2.1 h.point

theorem numT_no (a b : Nat) : (58 : UInt8) ∉ numT a b := by
  have h : ∀ n, (58 : UInt8) ∉ decDigits n := fun n => CL.dec_no n 58 (CL.not_dg 58 (by omega))
  unfold numT
  split
  · exact h a
  · intro e
    rcases List.mem_append.1 e with e | e
    · exact h a e
    · rcases List.mem_cons.1 e with e | e
      · cases e
      · exact h b e

theorem numT_ne' (a b : Nat) : numT a b ≠ [] := by
  unfold numT
  split
  · exact CL.dec_ne a
  · simp

theorem Pub.host_no (p : Pub) : (58 : UInt8) ∉ p.hostT := by
  unfold Pub.hostT
  split
  · simp
  · exact numT_no _ _
theorem Pub.out_no {p : Pub} (h : p.Ok) : (58 : UInt8) ∉ p.outT := by
  unfold Pub.outT
  intro e
  rcases List.mem_append.1 e with e | e
  · exact numT_no _ _ e
  · rcases List.mem_cons.1 e with e | e
    · cases e
    · rcases h.pr with h | h | h <;> rw [h] at e <;> revert e <;> decide

theorem Pub.host_nil (p : Pub) : p.hostT = [] ↔ p.h = 0 := by
  unfold Pub.hostT
  split
  · rename_i h; simp [h]
  · rename_i h; exact ⟨fun e => absurd e (numT_ne' _ _), fun e => absurd e h⟩

theorem Pub.text_out {p : Pub} (h0 : p.ip = []) (h1 : p.h = 0) : p.text = p.outT := by
  have e2 : p.hostT = [] := p.host_nil.2 h1
  rw [Pub.text, if_neg (fun e => e h0), if_neg (fun e => e e2)]
theorem Pub.text_host {p : Pub} (h0 : p.ip = []) (h1 : ¬ p.h = 0) : p.text = p.hostT ++ 58 :: p.outT := by
  rw [Pub.text, if_neg (fun e => e h0), if_pos (fun e => h1 (p.host_nil.1 e))]
theorem Pub.text_ip {p : Pub} (h0 : ¬ p.ip = []) : p.text = p.ipT ++ 58 :: (p.hostT ++ 58 :: p.outT) := by
  rw [Pub.text, if_pos h0]

theorem numT_len' (a b : Nat) (ha : a ≤ 65535) (hb : b ≤ 65535) : (numT a b).length ≤ 131073 := by
  have h1 := dec_len a
  have h2 := dec_len b
  unfold numT
  split
  · omega
  · simp; omega

theorem Pub.out_len {p : Pub} (h : p.Ok) : p.outT.length ≤ 131080 := by
  have h1 := numT_len' p.a p.b (Nat.le_trans h.ab h.b9) h.b9
  have h2 : p.proto.length ≤ 4 := by rcases h.pr with h | h | h <;> rw [h] <;> decide
  unfold Pub.outT
  simp; omega
theorem Pub.host_len {p : Pub} (h : p.Ok) : p.hostT.length ≤ 131073 := by
  unfold Pub.hostT
  split
  · simp
  · rcases h.host with ⟨e, _⟩ | ⟨e1, e2, e3, _⟩
    · omega
    · exact numT_len' _ _ (by omega) e3
theorem Pub.ip_len {p : Pub} (h : p.Ok) : p.ip.length ≤ 15 ∧ p.ipT.length ≤ 17 := by
  have h1 : p.ip.length ≤ 15 := by
    rcases h.ip with e | e | e
    · rw [e]; simp
    · exact e.len
    · have := (six_no _ e).2.2.2.2.2; omega
  refine ⟨h1, ?_⟩
  unfold Pub.ipT
  split
  · simp; omega
  · omega
theorem Pub.text_len {p : Pub} (h : p.Ok) : p.text.length ≤ 300000 := by
  have h1 := Pub.out_len h
  have h2 := Pub.host_len h
  have h3 := (Pub.ip_len h).2
  unfold Pub.text
  split
  · simp; omega
  · split
    · simp; omega
    · omega
end Go.Proofs.YtdmggcbbfljciaaGreatDoor

/- texts of the sixth version, as netip reads them: pure. -/
namespace Go.Proofs.YtdmggcbbfljciaaGreatDoor
open Go.RowKit Go.Lib

theorem byte_get (s : ByteArray) (i : Nat) (h : i < s.size) : s[i].toNat = (s.data.toList.getD i 0).toNat := by
  have h1 : i < s.data.toList.length := by rw [← Lib.size_eq]; exact h
  have e : s[i] = s.data.toList[i] := by
    rw [Array.getElem_toList]; rfl
  rw [e]
  simp [List.getD, List.getElem?_eq_getElem h1]

namespace G6
/-- a hexadecimal figure of small letters -/
def hex (c : UInt8) : Prop := (48 ≤ c.toNat ∧ c.toNat ≤ 57) ∨ (97 ≤ c.toNat ∧ c.toNat ≤ 102)
/-- its value -/
def hv (c : UInt8) : Nat := if c.toNat ≤ 57 then c.toNat - 48 else c.toNat - 87

/-- one to four figures -/
def Grp (r : List UInt8) : Prop := (∀ c ∈ r, hex c) ∧ 1 ≤ r.length ∧ r.length ≤ 4

/-- what is left of an address, n groups: i bytes are written, the gap (if it was met) lies at e -/
def Good : Nat → List UInt8 → Nat → Int → Prop
  | 0, _, _, _ => False
  | n + 1, s, i, e =>
    (n = 0 ∧ Grp s ∧ 0 ≤ e ∧ e ≤ (i : Int) ∧ i + 2 ≤ 14) ∨
    (∃ r t, s = r ++ 58 :: t ∧ Grp r ∧ t.getD 0 58 ≠ 58 ∧ i + 2 ≤ 12 ∧ Good n t (i + 2) e) ∨
    (∃ r t, s = r ++ 58 :: 58 :: t ∧ Grp r ∧ t ≠ [] ∧ e = -1 ∧ i + 2 ≤ 12 ∧ Good n t (i + 2) ((i + 2 : Nat) : Int))

theorem grp_dec (r : List UInt8) (h : r.all (fun c => decide (48 ≤ c.toNat) && decide (c.toNat ≤ 57) || decide (97 ≤ c.toNat) && decide (c.toNat ≤ 102)) = true) (h1 : 1 ≤ r.length) (h2 : r.length ≤ 4) : Grp r := by
  refine ⟨fun c hc => ?_, h1, h2⟩
  have := List.all_eq_true.1 h c hc
  simp at this
  exact this

theorem good1 : Good 1 [49] 0 0 := Or.inl ⟨rfl, grp_dec _ (by decide) (by decide) (by decide), by decide, by decide, by decide⟩
theorem good2 : Good 3 [50, 48, 48, 49, 58, 100, 98, 56, 58, 58, 49] 0 (-1) :=
  Or.inr (Or.inl ⟨[50, 48, 48, 49], [100, 98, 56, 58, 58, 49], rfl, grp_dec _ (by decide) (by decide) (by decide), by decide, by decide,
    Or.inr (Or.inr ⟨[100, 98, 56], [49], rfl, grp_dec _ (by decide) (by decide) (by decide), by decide, rfl, by decide,
      Or.inl ⟨rfl, grp_dec _ (by decide) (by decide) (by decide), by decide, by decide, by decide⟩⟩)⟩)
theorem good3 : Good 2 [102, 101, 56, 48, 58, 58, 97] 0 (-1) :=
  Or.inr (Or.inr ⟨[102, 101, 56, 48], [97], rfl, grp_dec _ (by decide) (by decide) (by decide), by decide, rfl, by decide,
    Or.inl ⟨rfl, grp_dec _ (by decide) (by decide) (by decide), by decide, by decide, by decide⟩⟩)

/-- the value of a group's first figures -/
def val : List UInt8 → Nat → Nat
  | [], a => a
  | c :: r, a => val r (a * 16 + hv c)
theorem hv_lt (c : UInt8) (h : hex c) : hv c < 16 := by
  unfold hv
  rcases h with h | h
  · rw [if_pos h.2]; omega
  · rw [if_neg (by omega)]; omega
end G6
end Go.Proofs.YtdmggcbbfljciaaGreatDoor

/- spec.fourth, spec.sixth, spec.numbers. -/
namespace Go.Proofs.YtdmggcbbfljciaaGreatDoor
open Go.RowKit Go.Lib

theorem f4_told {l : List UInt8} {n g d : Nat} (h : F4.At l l.length n g d) : F4.Is l ↔ g = 4 ∧ 0 < d := by
  unfold F4.At at h
  rw [List.take_length] at h
  constructor
  · rintro ⟨n', d', h1, h2⟩
    rw [h] at h1
    simp only [Option.some.injEq, Prod.mk.injEq] at h1
    omega
  · rintro ⟨rfl, hd⟩
    exact ⟨n, d, h, hd⟩

set_option maxRecDepth 100000 in
set_option maxHeartbeats 4000000 in
theorem fourth_any (s : ByteArray) (hl : s.size ≤ 140737488355328) (w : World) :
    Calls Tryz.prog 21 #[.string s] w fun e w' => Told e (F4.Is s.data.toList) ∧ w' = w := by
  have HL : Hid (s.size = s.data.toList.length) := Lib.size_eq s
  go_enter Tryz.func21, Tryz.ntmps21
  go_wp2
  go_loopg [3, 4, 5, 10] (s.size + 1) (fun m nv gv dv iv wr => ∃ (n g d i : Nat), nv = .int .i64 n ∧ gv = .int .i64 g ∧ dv = .int .i64 d ∧ iv = .int .i64 i ∧ Hid (m + i = s.size + 1) ∧ Hid (i ≤ s.size) ∧ Hid (F4.At s.data.toList i n g d) ∧ n ≤ 255 ∧ d ≤ 3 ∧ Hid (g ≤ i + 1) ∧ wr = w)
  case atStart => exact ⟨0, 1, 0, 0, rfl, rfl, rfl, rfl, rfl, Nat.zero_le _, F4.At.zero _, by omega, by omega, (show _ ≤ _ by omega), rfl⟩
  case round =>
    obtain ⟨n, g, d, i, rfl, rfl, rfl, rfl, hm, hi, hat, hn, hd3, hg, rfl⟩ := hrel
    have hg2 : g ≤ 140737488355330 := by have := hg.out; have := hi.out; omega
    by_cases hin : i < s.size
    · have hlt : decide ((i : Int) < (s.size : Int)) = true := by simp; omega
      have Hx : Hid ((s.data.toList.getD i 0).toNat = (s[i]'hin).toNat) := (byte_get s i hin).symm
      have HI : Hid (i < s.data.toList.length) := (show _ < _ by rw [← HL.out]; exact hin)
      have hc256 : (s[i]'hin).toNat < 256 := (s[i]'hin).toNat_lt
      by_cases hdot : (s[i]'hin).toNat = 46
      · have b1 : (((s[i]'hin).toNat : Int) == 46) = true := by simp; omega
        by_cases hd0 : d = 0
        · subst hd0
          have Hno : Hid (¬ F4.Is s.data.toList) := by
            intro h
            rcases h.next hat.out HI.out with ⟨_, h2, _⟩ | ⟨h1, _⟩
            · omega
            · have h1 := Nat.le_trans h1 (Nat.le_of_eq Hx.out); omega
          go_wp2
          go_ret
          exact ⟨Told.f Hno.out, rfl⟩
        · have b2 : ((d : Int) == 0) = false := by simp; omega
          have Hn : Hid (F4.At s.data.toList (i + 1) 0 (g + 1) 0) := by
            show F4.run _ _ = _
            have hxd : (s.data.toList.getD i 0).toNat = 46 := Hx.out.trans hdot
            rw [hat.out.next HI.out, hxd]
            simp [F4.step, hd0]
          go_wp2
          go_roundg (gk - 1)
          case measure => have := hm.out; have := hi.out; omega
          case rel =>
            have e1 := hm.out
            have e2 := hg.out
            exact ⟨0, g + 1, 0, i + 1, rfl, by go_num, rfl, by go_num, show _ = _ by omega, show _ ≤ _ by omega, Hn, by omega, by omega, show _ ≤ _ by omega, rfl⟩
      · have b1 : (((s[i]'hin).toNat : Int) == 46) = false := by simp; omega
        by_cases h48 : 48 ≤ (s[i]'hin).toNat ∧ (s[i]'hin).toNat ≤ 57
        · obtain ⟨h48, h57⟩ := h48
          have b3 : decide (((s[i]'hin).toNat : Int) ≥ 48) = true := by simp; omega
          have b4 : decide (((s[i]'hin).toNat : Int) ≤ 57) = true := by simp; omega
          have HS : Hid (∀ st, F4.step n g d (s[i]'hin).toNat = some st → F4.run (s.data.toList.take (i + 1)) (0, 1, 0) = some st) := by
            intro st h
            exact (hat.out.next HI.out).trans ((congrArg (F4.step n g d) Hx.out).trans h)
          by_cases hz : 0 < d ∧ n = 0
          · obtain ⟨hz1, rfl⟩ := hz
            have b5 : decide ((d : Int) > 0) = true := by simp; omega
            have Hno : Hid (¬ F4.Is s.data.toList) := by
              intro h
              rcases h.next hat.out HI.out with ⟨h1, _⟩ | ⟨_, _, h3, _⟩
              · have h1 := Hx.out.symm.trans h1; omega
              · exact h3 ⟨hz1, rfl⟩
            go_wp2
            go_ret
            exact ⟨Told.f Hno.out, rfl⟩
          · by_cases hbig : 10 * n + ((s[i]'hin).toNat - 48) > 255
            · have Hno : Hid (¬ F4.Is s.data.toList) := by
                intro h
                rcases h.next hat.out HI.out with ⟨h1, _⟩ | ⟨_, _, _, h4, _⟩
                · have h1 := Hx.out.symm.trans h1; omega
                · have h4 : 10 * n + ((s[i]'hin).toNat - 48) ≤ 255 := by have e := Hx.out; rw [← e]; exact h4
                  omega
              have b6 : decide (10 * (n : Int) + (((s[i]'hin).toNat : Int) - 48) > 255) = true := by simp; omega
              have b6n : 255 < 10 * (n : Int) + (((s[i]'hin).toNat : Int) - 48) := by omega
              by_cases hd0 : d = 0
              · subst hd0
                go_wp2
                go_ret
                exact ⟨Told.f Hno.out, rfl⟩
              · have b5 : decide ((d : Int) > 0) = true := by simp; omega
                have b7 : ((n : Int) == 0) = false := by simp; omega
                go_wp2
                go_ret
                exact ⟨Told.f Hno.out, rfl⟩
            · have b6 : decide (10 * (n : Int) + (((s[i]'hin).toNat : Int) - 48) > 255) = false := by simp; omega
              have b6n : 10 * (n : Int) + (((s[i]'hin).toNat : Int) - 48) ≤ 255 := by omega
              have Hn : Hid (F4.At s.data.toList (i + 1) (10 * n + ((s[i]'hin).toNat - 48)) g (d + 1)) := by
                refine HS.out _ ?_
                unfold F4.step
                rw [if_neg hdot, if_pos ⟨h48, h57⟩, if_neg (fun e => by rcases e with e | e; exact hz e; exact hbig e)]
              have Hl := Lib.hid (Hn.out.len HI.out)
              by_cases hd0 : d = 0
              · subst hd0
                go_wp2
                go_roundg (gk - 1)
                case measure => have := hm.out; have := hi.out; omega
                case rel =>
                  have e1 := hm.out
                  have e2 := hg.out
                  have e3 := Hl.out
                  exact ⟨10 * n + ((s[i]'hin).toNat - 48), g, 0 + 1, i + 1, (by congr 1; omega), rfl, by go_num, by go_num, show _ = _ by omega, show _ ≤ _ by omega, Hn, by omega, by omega, show _ ≤ _ by omega, rfl⟩
              · have b5 : decide ((d : Int) > 0) = true := by simp; omega
                have b7 : ((n : Int) == 0) = false := by simp; omega
                go_wp2
                go_roundg (gk - 1)
                case measure => have := hm.out; have := hi.out; omega
                case rel =>
                  have e1 := hm.out
                  have e2 := hg.out
                  have e3 := Hl.out
                  exact ⟨10 * n + ((s[i]'hin).toNat - 48), g, d + 1, i + 1, (by congr 1; omega), rfl, by go_num, by go_num, show _ = _ by omega, show _ ≤ _ by omega, Hn, by omega, by omega, show _ ≤ _ by omega, rfl⟩
        · have Hno : Hid (¬ F4.Is s.data.toList) := by
            intro h
            rcases h.next hat.out HI.out with ⟨h1, _⟩ | ⟨h1, h2, _⟩
            · have h1 := Hx.out.symm.trans h1; omega
            · exact h48 ⟨Nat.le_trans h1 (Nat.le_of_eq Hx.out), Nat.le_trans (Nat.le_of_eq Hx.out.symm) h2⟩
          by_cases hlow : (s[i]'hin).toNat < 48
          · have b3 : decide (((s[i]'hin).toNat : Int) ≥ 48) = false := by simp; omega
            go_wp2
            go_ret
            exact ⟨Told.f Hno.out, rfl⟩
          · have b3 : decide (((s[i]'hin).toNat : Int) ≥ 48) = true := by simp; omega
            have b4 : decide (((s[i]'hin).toNat : Int) ≤ 57) = false := by simp; omega
            go_wp2
            go_ret
            exact ⟨Told.f Hno.out, rfl⟩
    · have hlt : decide ((i : Int) < (s.size : Int)) = false := by simp; omega
      have Ht : Hid (F4.Is s.data.toList ↔ g = 4 ∧ 0 < d) := by
        refine f4_told (n := n) ?_
        have e : i = s.data.toList.length := by have := hi.out; rw [← HL.out]; omega
        rw [← e]; exact hat.out
      by_cases hg4 : g = 4
      · subst hg4
        have b1 : ((4 : Int) == 4) = true := by decide
        by_cases hd0 : d = 0
        · subst hd0
          go_wp2
          go_ret
          exact ⟨Told.f (fun e => by have := Ht.out.1 e; omega), rfl⟩
        · have b2 : decide ((d : Int) > 0) = true := by simp; omega
          have b2n : decide (0 < d) = true := decide_eq_true (by omega)
          go_wp2
          go_ret
          exact ⟨Told.t (Ht.out.2 (by first | exact ⟨rfl, by omega⟩ | (simp; omega))), rfl⟩
      · have b1 : ((g : Int) == 4) = false := by simp; omega
        go_wp2
        go_ret
        exact ⟨Told.f (fun e => by have := Ht.out.1 e; omega), rfl⟩

set_option maxRecDepth 100000 in
set_option maxHeartbeats 2000000 in
theorem sixth_any (s : ByteArray) (w : World) :
    Calls Tryz.prog 22 #[.string s] w fun e w' => Told e (sixL s.data.toList) ∧ w' = w := by
  have e1 := lit_eq s [58, 58, 49]
  have e2 := lit_eq s [58, 58]
  have e3 := lit_eq s [50, 48, 48, 49, 58, 100, 98, 56, 58, 58, 49]
  have e4 := lit_eq s [102, 101, 56, 48, 58, 58, 97]
  by_cases q1 : s.data.toList = [58, 58, 49]
  · rw [decide_eq_true q1] at e1
    have H : Hid (sixL s.data.toList) := Or.inl q1
    clear q1 e2 e3 e4
    go_enter Tryz.func22, Tryz.ntmps22
    go_wp2
    go_ret
    exact ⟨Told.t H.out, rfl⟩
  rw [decide_eq_false q1] at e1
  by_cases q2 : s.data.toList = [58, 58]
  · rw [decide_eq_true q2] at e2
    have H : Hid (sixL s.data.toList) := Or.inr (Or.inl q2)
    clear q1 q2 e3 e4
    go_enter Tryz.func22, Tryz.ntmps22
    go_wp2
    go_ret
    exact ⟨Told.t H.out, rfl⟩
  rw [decide_eq_false q2] at e2
  by_cases q3 : s.data.toList = [50, 48, 48, 49, 58, 100, 98, 56, 58, 58, 49]
  · rw [decide_eq_true q3] at e3
    have H : Hid (sixL s.data.toList) := Or.inr (Or.inr (Or.inl q3))
    clear q1 q2 q3 e4
    go_enter Tryz.func22, Tryz.ntmps22
    go_wp2
    go_ret
    exact ⟨Told.t H.out, rfl⟩
  rw [decide_eq_false q3] at e3
  by_cases q4 : s.data.toList = [102, 101, 56, 48, 58, 58, 97]
  · rw [decide_eq_true q4] at e4
    have H : Hid (sixL s.data.toList) := Or.inr (Or.inr (Or.inr q4))
    clear q1 q2 q3 q4
    go_enter Tryz.func22, Tryz.ntmps22
    go_wp2
    go_ret
    exact ⟨Told.t H.out, rfl⟩
  · rw [decide_eq_false q4] at e4
    have H : Hid (¬ sixL s.data.toList) := by
      rintro (h | h | h | h)
      · exact q1 h
      · exact q2 h
      · exact q3 h
      · exact q4 h
    clear q1 q2 q3 q4
    go_enter Tryz.func22, Tryz.ntmps22
    go_wp2
    go_ret
    exact ⟨Told.f H.out, rfl⟩

theorem dec_tx (n : Nat) (hn : n ≤ 1073741824) (w : World) : Calls Tryz.prog 29 #[.int .i64 n] w fun e w' => e = .returned (.string (tx (decDigits n))) ∧ Below w.heap.size w w' := by
  refine (decimal_any n hn w).mono ?_
  rintro e w' ⟨r, rfl, hr, hb⟩
  exact ⟨by rw [tx_of hr.out], hb⟩

theorem tx_dec_size (n : Nat) (hn : n ≤ 65535) : (tx (decDigits n)).size ≤ 65536 := by
  rw [tx_size]; have := dec_len n; omega

set_option maxRecDepth 100000 in
set_option maxHeartbeats 2000000 in
theorem numbers_any (a b : Nat) (ha : a ≤ 65535) (hb : b ≤ 65535) (w : World) :
    Calls Tryz.prog 28 #[.int .i64 a, .int .i64 b] w fun e w' => e = .returned (.string (tx (numT a b))) ∧ Below w.heap.size w w' := by
  have z1 := tx_dec_size a ha
  have z2 := tx_dec_size b hb
  by_cases h : a = b
  · subst h
    have hq : ((a : Int) == (a : Int)) = true := by simp
    have e : numT a a = decDigits a := if_pos rfl
    rw [e]
    go_enter Tryz.func28, Tryz.ntmps28
    go_wp2_with fail
    refine (dec_tx a (by omega) _).mono ?_
    rintro e w2 ⟨rfl, hb2⟩
    go_wp2_with fail
    go_ret
    exact ⟨rfl, hb2⟩
  · have hq : ((a : Int) == (b : Int)) = false := by simp; omega
    have e : tx (numT a b) = tx (decDigits a) ++ ⟨#[45]⟩ ++ tx (decDigits b) := by
      rw [numT, if_neg h]
      exact (tx_of (by rw [app_bytes, app_bytes, tx_list, tx_list]; simp)).symm
    have He := Lib.hid e
    clear e h
    go_enter Tryz.func28, Tryz.ntmps28
    go_wp2_with fail
    refine (dec_tx a (by omega) _).mono ?_
    rintro e w2 ⟨rfl, hb2⟩
    go_wp2_with fail
    refine (dec_tx b (by omega) _).mono ?_
    rintro e w3 ⟨rfl, hb3⟩
    go_wp2_with fail
    go_ret
    exact ⟨by rw [He.out]; rfl, hb2.trans (hb3.mono hb2.size)⟩
end Go.Proofs.YtdmggcbbfljciaaGreatDoor
