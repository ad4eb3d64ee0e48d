import Derived.Lib.BufferWrite
namespace Go.Proofs.Qxb6605469a

/-- The j-th byte of a list, as a number. -/
def byteAt (l : List UInt8) (j : Nat) : Int := ((l.getD j 0).toNat : Int)

theorem byteAt_bd (l : List UInt8) (j : Nat) : 0 ≤ byteAt l j ∧ byteAt l j ≤ 255 := by
  have := UInt8.toNat_lt (l.getD j 0)
  unfold byteAt
  omega

theorem byteAt_left (a b : List UInt8) (j : Nat) (h : j < a.length) : byteAt (a ++ b) j = byteAt a j := by
  unfold byteAt
  simp [List.getD, List.getElem?_append_left h]

theorem byteAt_right (a b : List UInt8) (j : Nat) : byteAt (a ++ b) (a.length + j) = byteAt b j := by
  unfold byteAt
  simp [List.getD, List.getElem?_append_right]

theorem byteAt_drop (a : List UInt8) (n j : Nat) : byteAt (a.drop n) j = byteAt a (n + j) := by
  unfold byteAt
  simp [List.getD]

theorem byteAt_take (a : List UInt8) (n j : Nat) (h : j < n) : byteAt (a.take n) j = byteAt a j := by
  unfold byteAt
  simp [List.getD, h]

theorem byteAt_str (s : ByteArray) (t : Nat) (h : t < s.size) : byteAt s.data.toList t = (s[t].toNat : Int) := by
  unfold byteAt
  rw [List.getD_eq_getElem?_getD, List.getElem?_eq_getElem (by simpa using h)]
  rfl

theorem byteAt_ext {a b : List UInt8} (hl : a.length = b.length) (h : ∀ j, j < a.length → byteAt a j = byteAt b j) : a = b := by
  apply List.ext_getElem hl
  intro j h1 h2
  have := h j h1
  unfold byteAt at this
  simp only [List.getD_eq_getElem?_getD, List.getElem?_eq_getElem h1, List.getElem?_eq_getElem h2, Option.getD_some] at this
  exact UInt8.toNat_inj.1 (by omega)

/-- A to Z in lower case, on numbers. -/
def lowN (z : Int) : Int := if 65 ≤ z ∧ z ≤ 90 then z + 32 else z
/-- .. on bytes. -/
def low (b : UInt8) : UInt8 := if 65 ≤ b.toNat ∧ b.toNat ≤ 90 then b + 32 else b

theorem low_toNat (b : UInt8) : ((low b).toNat : Int) = lowN (b.toNat : Int) := by
  unfold low lowN
  by_cases h : 65 ≤ b.toNat ∧ b.toNat ≤ 90
  · rw [if_pos h, if_pos (by omega), UInt8.toNat_add]
    have : (32 : UInt8).toNat = 32 := rfl
    rw [this]
    omega
  · rw [if_neg h, if_neg (by omega)]

theorem lowN_of (z : Int) (h : 65 ≤ z ∧ z ≤ 90) : lowN z = z + 32 := by unfold lowN; rw [if_pos h]
theorem lowN_not (z : Int) (h : ¬ (65 ≤ z ∧ z ≤ 90)) : lowN z = z := by unfold lowN; rw [if_neg h]
theorem lowN_bd (z : Int) (h : 0 ≤ z ∧ z ≤ 255) : 0 ≤ lowN z ∧ lowN z ≤ 255 := by unfold lowN; split <;> omega

theorem byteAt_low (l : List UInt8) (j : Nat) (h : j < l.length) : byteAt (l.map low) j = lowN (byteAt l j) := by
  unfold byteAt
  simp only [List.getD_eq_getElem?_getD, List.getElem?_map, List.getElem?_eq_getElem h, Option.map_some, Option.getD_some]
  exact low_toNat _

/-- Where the k-th label behind 'p' begins. -/
def posAt (m : List UInt8) (p : Nat) : Nat → Nat
  | 0 => p
  | k + 1 => posAt m p k + 1 + (byteAt m (posAt m p k)).toNat

/-- The k-th label behind 'p', lower-cased. -/
def labelAt (m : List UInt8) (p k : Nat) : List UInt8 := ((m.drop (posAt m p k + 1)).take (byteAt m (posAt m p k)).toNat).map low

/-- The first k labels, lower-cased. -/
def labelsTo (m : List UInt8) (p k : Nat) : List (List UInt8) := (List.range k).map (labelAt m p)

theorem labelsTo_succ (m : List UInt8) (p k : Nat) : labelsTo m p (k + 1) = labelsTo m p k ++ [labelAt m p k] := by
  unfold labelsTo
  rw [List.range_succ, List.map_append]
  rfl

theorem labelsTo_len (m : List UInt8) (p k : Nat) : (labelsTo m p k).length = k := by simp [labelsTo]

/-- k whole labels lie behind 'p', each reached within 254 bytes. -/
def Whole (m : List UInt8) (p k : Nat) : Prop :=
  ∀ j, j < k → posAt m p j < m.length ∧ 1 ≤ byteAt m (posAt m p j) ∧ byteAt m (posAt m p j) ≤ 63 ∧ posAt m p (j + 1) ≤ m.length ∧ posAt m p j ≤ p + 254

theorem posAt_ge (m : List UInt8) (p : Nat) : ∀ k, p + k ≤ posAt m p k
  | 0 => by simp [posAt]
  | k + 1 => by have := posAt_ge m p k; simp only [posAt]; omega

theorem Whole.le {m : List UInt8} {p k : Nat} (h : Whole m p k) (hk : 1 ≤ k) : posAt m p k ≤ m.length := by
  obtain ⟨j, rfl⟩ : ∃ j, k = j + 1 := ⟨k - 1, by omega⟩
  exact (h j (by omega)).2.2.2.1

/-- How the reader of a name ends: where she stands, and why. -/
def NameOk (m : List UInt8) (p K : Nat) : Prop := Whole m p K ∧ posAt m p K < m.length ∧ byteAt m (posAt m p K) = 0 ∧ posAt m p K ≤ p + 254
def NameNo (m : List UInt8) (p K : Nat) : Prop := Whole m p K ∧ (p + 254 < posAt m p K ∨ m.length ≤ posAt m p K ∨ 63 < byteAt m (posAt m p K) ∨ (1 ≤ byteAt m (posAt m p K) ∧ (m.length : Int) - (posAt m p K : Int) - 1 < byteAt m (posAt m p K)))

end Go.Proofs.Qxb6605469a
