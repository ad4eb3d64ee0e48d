import Derived.Lib.ItoaNum
import Derived.Lib.ItoaMem
namespace Go.Proofs.Qxb6605458aDoor

/-- The j-th byte of a list, as a number. -/
def byteAt (l : List UInt8) (j : Nat) : Int := ((l.getD j 0).toNat : Int)

theorem byteAt_bd (l : List UInt8) (j : Nat) : 0 ≤ byteAt l j ∧ byteAt l j ≤ 255 := by
  have := UInt8.toNat_lt (l.getD j 0)
  unfold byteAt
  omega

theorem byteAt_left (a b : List UInt8) (j : Nat) (h : j < a.length) : byteAt (a ++ b) j = byteAt a j := by
  unfold byteAt
  simp [List.getD, List.getElem?_append_left h]

theorem byteAt_right (a b : List UInt8) (j : Nat) : byteAt (a ++ b) (a.length + j) = byteAt b j := by
  unfold byteAt
  simp [List.getD, List.getElem?_append_right]

theorem byteAt_right' (a b : List UInt8) (j : Nat) (h : a.length ≤ j) : byteAt (a ++ b) j = byteAt b (j - a.length) := by
  obtain ⟨k, rfl⟩ : ∃ k, j = a.length + k := ⟨j - a.length, by omega⟩
  rw [byteAt_right]; congr 1; omega

theorem byteAt_drop (a : List UInt8) (n j : Nat) : byteAt (a.drop n) j = byteAt a (n + j) := by
  unfold byteAt
  simp [List.getD]

theorem byteAt_replicate (n j : Nat) (c : UInt8) (h : j < n) : byteAt (List.replicate n c) j = (c.toNat : Int) := by
  unfold byteAt
  simp [List.getD, h]

/-- The value of the k digits at 'pos'. -/
def valAt (l : List UInt8) (pos : Nat) : Nat → Int
  | 0 => 0
  | k + 1 => valAt l pos k * 10 + (byteAt l (pos + k) - 48)

theorem valAt_bd (l : List UInt8) (pos : Nat) : ∀ k, (∀ j, j < k → 48 ≤ byteAt l (pos + j) ∧ byteAt l (pos + j) ≤ 57) → 0 ≤ valAt l pos k ∧ valAt l pos k < 10 ^ k
  | 0, _ => by simp [valAt]
  | k + 1, h => by
    obtain ⟨h1, h2⟩ := valAt_bd l pos k (fun j hj => h j (by omega))
    have h3 := h k (by omega)
    rw [valAt, Int.pow_succ]
    omega

theorem valAt_small (l : List UInt8) (pos k : Nat) (hk : k ≤ 18) (h : ∀ j, j < k → 48 ≤ byteAt l (pos + j) ∧ byteAt l (pos + j) ≤ 57) :
    0 ≤ valAt l pos k ∧ valAt l pos k ≤ 999999999999999999 := by
  obtain ⟨h1, h2⟩ := valAt_bd l pos k h
  have h3 : (10 : Int) ^ k ≤ 10 ^ 18 := by
    have : (10 : Nat) ^ k ≤ 10 ^ 18 := Nat.pow_le_pow_right (by decide) hk
    have h4 : ((10 ^ k : Nat) : Int) ≤ ((10 ^ 18 : Nat) : Int) := Int.ofNat_le.2 this
    simpa using h4
  have h5 : (10 : Int) ^ 18 = 1000000000000000000 := by decide
  omega

/-- The digits of a numeral, place for place. -/
theorem byteAt_decDigits (u t : Nat) (h : t < Lib.nDigits u) : byteAt (Lib.decDigits u) t = 48 + ((u / 10 ^ (Lib.nDigits u - 1 - t) % 10 : Nat) : Int) := by
  have h1 : (Lib.decDigits u)[t]? = some (Lib.dg u (Lib.nDigits u - 1 - t)) := by
    rw [Lib.decDigits_eq]; simp [h]
  have h2 : 48 + u / 10 ^ (Lib.nDigits u - 1 - t) % 10 < 256 := by
    have := Nat.mod_lt (u / 10 ^ (Lib.nDigits u - 1 - t)) (show 0 < 10 by decide)
    omega
  unfold byteAt
  rw [List.getD, h1]
  unfold Lib.dg
  simp only [Option.getD_some]
  rw [UInt8.toNat_ofNat_of_lt' (by simpa using h2)]
  omega

theorem decDigits_are (u t : Nat) (h : t < Lib.nDigits u) : 48 ≤ byteAt (Lib.decDigits u) t ∧ byteAt (Lib.decDigits u) t ≤ 57 := by
  rw [byteAt_decDigits u t h]
  have := Nat.mod_lt (u / 10 ^ (Lib.nDigits u - 1 - t)) (show 0 < 10 by decide)
  omega

/-- The numeral reads back. -/
theorem valAt_step (l : List UInt8) (pos u : Nat) (hl : ∀ t, t < Lib.nDigits u → byteAt l (pos + t) = byteAt (Lib.decDigits u) t) :
    ∀ k, k ≤ Lib.nDigits u → valAt l pos k = ((u / 10 ^ (Lib.nDigits u - k) : Nat) : Int)
  | 0, _ => by
    rw [Nat.div_eq_of_lt (by simpa using Lib.lt_pow_nDigits u)]
    rfl
  | k + 1, hk => by
    rw [valAt, valAt_step l pos u hl k (by omega), hl k (by omega), byteAt_decDigits u k (by omega)]
    have e : Lib.nDigits u - k = (Lib.nDigits u - (k + 1)) + 1 := by omega
    have e2 : Lib.nDigits u - 1 - k = Lib.nDigits u - (k + 1) := by omega
    rw [e2, e, Nat.pow_succ, ← Nat.div_div_eq_div_mul]
    generalize u / 10 ^ (Lib.nDigits u - (k + 1)) = q
    omega

theorem valAt_decDigits (l : List UInt8) (pos u : Nat) (hl : ∀ t, t < Lib.nDigits u → byteAt l (pos + t) = byteAt (Lib.decDigits u) t) :
    valAt l pos (Lib.nDigits u) = (u : Int) := by
  rw [valAt_step l pos u hl _ (Nat.le_refl _)]
  simp

theorem nDigits_le (k u : Nat) (hk : 1 ≤ k) (h : u < 10 ^ k) : Lib.nDigits u ≤ k := by
  induction k generalizing u with
  | zero => omega
  | succ k ih =>
    by_cases hu : u < 10
    · rw [Lib.nDigits_small hu]; omega
    · rw [Lib.nDigits_big hu]
      rcases Nat.eq_zero_or_pos k with rfl | hk'
      · simp at h; omega
      · have := ih (u / 10) (by omega) (by rw [Nat.pow_succ] at h; omega)
        omega

theorem itoa_len (n : Int) : (Lib.itoa n).length = Lib.nDigits n.natAbs + (if n < 0 then 1 else 0) := by
  unfold Lib.itoa
  by_cases h : n < 0
  · simp [h, Lib.decDigits_length]
  · simp only [h, if_false, Lib.decDigits_length]
    congr 1
    omega

end Go.Proofs.Qxb6605458aDoor
