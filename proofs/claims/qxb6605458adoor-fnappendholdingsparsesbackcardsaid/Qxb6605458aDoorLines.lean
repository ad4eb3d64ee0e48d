import Derived.Test.Qxb6605458aDoorPadded
namespace Go.Proofs.Qxb6605458aDoor

/-- The bytes bs lie in R from pos on. -/
def Seg (R : List UInt8) (pos : Nat) (bs : List UInt8) : Prop := ∀ t, t < bs.length → byteAt R (pos + t) = byteAt bs t

theorem Seg.left {R : List UInt8} {pos : Nat} {a b : List UInt8} (h : Seg R pos (a ++ b)) : Seg R pos a := fun t ht => by
  rw [h t (by simp; omega), byteAt_left _ _ _ ht]

theorem Seg.right {R : List UInt8} {pos : Nat} {a b : List UInt8} (h : Seg R pos (a ++ b)) : Seg R (pos + a.length) b := fun t ht => by
  have := h (a.length + t) (by simp; omega)
  rw [byteAt_right, ← Nat.add_assoc] at this
  exact this

theorem Seg.intro (x a b : List UInt8) : Seg (x ++ (a ++ b)) x.length a := fun t ht => by
  rw [byteAt_right, byteAt_left _ _ _ ht]

theorem Seg.cast {R : List UInt8} {p q : Nat} {bs : List UInt8} (h : Seg R p bs) (e : p = q) : Seg R q bs := by rw [← e]; exact h

theorem Seg.val {R : List UInt8} {pos : Nat} {bs : List UInt8} (h : Seg R pos bs) : ∀ k, k ≤ bs.length → valAt R pos k = valAt bs 0 k
  | 0, _ => rfl
  | k + 1, hk => by rw [valAt, valAt, h.val k (by omega), h k (by omega), Nat.zero_add]

theorem valAt_split (l : List UInt8) (pos z : Nat) : ∀ k, valAt l pos (z + k) = valAt l pos z * 10 ^ k + valAt l (pos + z) k
  | 0 => by simp [valAt]
  | k + 1 => by
    rw [← Nat.add_assoc, valAt, valAt_split l pos z k, valAt, Int.pow_succ, ← Nat.add_assoc]
    generalize valAt l pos z = a
    generalize valAt l (pos + z) k = b
    generalize byteAt l (pos + z + k) = c
    generalize (10 : Int) ^ k = d
    rw [Int.add_mul, Int.mul_assoc]
    omega

theorem valAt_zeros (z : Nat) (l : List UInt8) : ∀ k, k ≤ z → valAt (List.replicate z 48 ++ l) 0 k = 0
  | 0, _ => rfl
  | k + 1, hk => by
    rw [valAt, valAt_zeros z l k (by omega), Nat.zero_add, byteAt_left _ _ _ (by simp; omega), byteAt_replicate _ _ _ (by omega)]
    rfl

theorem itoa_nat (u : Nat) : Lib.itoa (u : Int) = Lib.decDigits u := by
  unfold Lib.itoa
  rw [if_neg (by omega)]
  simp

theorem dec_val (u : Nat) : valAt (Lib.decDigits u) 0 (Lib.nDigits u) = (u : Int) := valAt_decDigits _ 0 u (fun t _ => by rw [Nat.zero_add])

theorem padded_val (u : Nat) (w : Int) : valAt (padded u w) 0 (padded u w).length = (u : Int) := by
  unfold padded
  rw [itoa_nat]
  generalize (w - ((Lib.decDigits u).length : Int)).toNat = z
  rw [List.length_append, List.length_replicate, valAt_split, valAt_zeros z _ z (Nat.le_refl _), Int.zero_mul, Int.zero_add, Nat.zero_add]
  have h : Seg (List.replicate z 48 ++ Lib.decDigits u) z (Lib.decDigits u) := fun t ht => by
    have := byteAt_right (List.replicate z 48) (Lib.decDigits u) t
    simpa using this
  rw [h.val _ (Nat.le_refl _), Lib.decDigits_length, dec_val]

theorem padded_digits (u : Nat) (w : Int) (t : Nat) (ht : t < (padded u w).length) : 48 ≤ byteAt (padded u w) t ∧ byteAt (padded u w) t ≤ 57 := by
  unfold padded at ht ⊢
  rw [itoa_nat] at ht ⊢
  generalize (w - ((Lib.decDigits u).length : Int)).toNat = z at ht ⊢
  by_cases h : t < z
  · rw [byteAt_left _ _ _ (by simpa using h), byteAt_replicate _ _ _ h]
    decide
  · rw [byteAt_right' _ _ _ (by simpa using h)]
    rw [List.length_append, List.length_replicate, Lib.decDigits_length] at ht
    exact decDigits_are u _ (by simp; omega)

theorem padded_length (u k : Nat) (hk : 1 ≤ k) (h : u < 10 ^ k) : (padded u (k : Int)).length = k := by
  have := nDigits_le k u hk h
  unfold padded
  rw [itoa_nat, List.length_append, List.length_replicate, Lib.decDigits_length]
  omega

theorem nDigits_low (u : Nat) (h : 1 ≤ u) : 10 ^ (Lib.nDigits u - 1) ≤ u := by
  induction u using Nat.strongRecOn with
  | _ u ih =>
    by_cases hu : u < 10
    · rw [Lib.nDigits_small hu]; simpa using h
    · rw [Lib.nDigits_big hu]
      have h1 := ih (u / 10) (by omega) (by omega)
      have h2 := Lib.nDigits_pos (u / 10)
      rw [show Lib.nDigits (u / 10) + 1 - 1 = (Lib.nDigits (u / 10) - 1) + 1 by omega, Nat.pow_succ]
      omega

theorem first_digit (u : Nat) (h : 1 ≤ u) : 49 ≤ byteAt (Lib.decDigits u) 0 := by
  have hp := Lib.nDigits_pos u
  rw [byteAt_decDigits u 0 (by omega)]
  have h1 := nDigits_low u h
  have h2 := Lib.lt_pow_nDigits u
  rw [Nat.sub_zero]
  have h3 : u / 10 ^ (Lib.nDigits u - 1) < 10 := by
    apply Nat.div_lt_of_lt_mul
    rw [← Nat.pow_succ]
    rw [show (Lib.nDigits u - 1).succ = Lib.nDigits u by omega]
    exact h2
  have h4 : 1 ≤ u / 10 ^ (Lib.nDigits u - 1) := (Nat.one_le_div_iff (Nat.pow_pos (by decide))).2 h1
  rw [Nat.mod_eq_of_lt h3]
  omega

/-- The price of line j. -/
def price (i s j : Nat) : Nat := (i * 7919 + j * 104729 + s) % 100000

theorem price_lt (i s j : Nat) : price i s j < 100000 := Nat.mod_lt _ (by decide)
theorem price_step (i s j : Nat) : (price i s j + 4729) % 100000 = price i s (j + 1) := by unfold price; omega
theorem price_one (i s : Nat) : ((i * 7919) % 100000 + s % 100000 + 4729) % 100000 = price i s 1 := by unfold price; omega

/-- One line of holdings.csv. -/
def line (code : List UInt8) (i s j : Nat) : List UInt8 :=
  code ++ ([44, 83] ++ (padded (j : Int) 6 ++ ([44] ++ (Lib.itoa ((100 * j : Nat) : Int) ++ ([44] ++ (Lib.itoa ((1 + price i s j / 1000 : Nat) : Int) ++ ([46] ++ (padded ((price i s j % 1000 : Nat) : Int) 3 ++ [10]))))))))

/-- The first k lines. -/
def lines (code : List UInt8) (i s : Nat) : Nat → List UInt8
  | 0 => []
  | k + 1 => lines code i s k ++ line code i s (k + 1)

theorem lines_split (code : List UInt8) (i s k : Nat) : ∀ m, k < m → ∃ r, lines code i s m = lines code i s k ++ (line code i s (k + 1) ++ r)
  | 0, h => by omega
  | m + 1, h => by
    by_cases hk : k < m
    · obtain ⟨r, hr⟩ := lines_split code i s k m hk
      exact ⟨r ++ line code i s (m + 1), by rw [lines, hr]; simp [List.append_assoc]⟩
    · obtain rfl : k = m := by omega
      exact ⟨[], by rw [lines]; simp⟩

/-- What the reader meets at the head of line j. -/
structure LineAt (R : List UInt8) (P c nq nw : Nat) (code : List UInt8) (i s j : Nat) : Prop where
  cd : ∀ t, t < c → byteAt R (P + t) = byteAt code t
  c1 : byteAt R (P + c) = 44
  c2 : byteAt R (P + c + 1) = 83
  id : valAt R (P + c + 2) 6 = (j : Int)
  idd : ∀ t, t < 6 → 48 ≤ byteAt R (P + c + 2 + t) ∧ byteAt R (P + c + 2 + t) ≤ 57
  c3 : byteAt R (P + c + 8) = 44
  q : valAt R (P + c + 9) nq = ((100 * j : Nat) : Int)
  qd : ∀ t, t < nq → 48 ≤ byteAt R (P + c + 9 + t) ∧ byteAt R (P + c + 9 + t) ≤ 57
  q0 : 49 ≤ byteAt R (P + c + 9)
  c4 : byteAt R (P + c + 9 + nq) = 44
  w : valAt R (P + c + 10 + nq) nw = ((1 + price i s j / 1000 : Nat) : Int)
  wd : ∀ t, t < nw → 48 ≤ byteAt R (P + c + 10 + nq + t) ∧ byteAt R (P + c + 10 + nq + t) ≤ 57
  w0 : 49 ≤ byteAt R (P + c + 10 + nq)
  c5 : byteAt R (P + c + 10 + nq + nw) = 46
  f : valAt R (P + c + 11 + nq + nw) 3 = ((price i s j % 1000 : Nat) : Int)
  fd : ∀ t, t < 3 → 48 ≤ byteAt R (P + c + 11 + nq + nw + t) ∧ byteAt R (P + c + 11 + nq + nw + t) ≤ 57
  c6 : byteAt R (P + c + 14 + nq + nw) = 10
  nq1 : 1 ≤ nq
  nq5 : nq ≤ 5
  nw1 : 1 ≤ nw
  nw3 : nw ≤ 3
  len : (line code i s j).length = c + 15 + nq + nw

theorem seg_one {R : List UInt8} {pos : Nat} {x : UInt8} {r : List UInt8} (h : Seg R pos (x :: r)) : byteAt R pos = (x.toNat : Int) := by
  have := h 0 (by simp)
  rw [Nat.add_zero] at this
  rw [this]
  rfl

theorem lineAt {R : List UInt8} {P : Nat} {code : List UInt8} {i s j : Nat} (hj : 1 ≤ j) (hj2 : j ≤ 200) (h : Seg R P (line code i s j)) :
    LineAt R P code.length (Lib.nDigits (100 * j)) (Lib.nDigits (1 + price i s j / 1000)) code i s j := by
  have hp := price_lt i s j
  have l6 : (padded (j : Int) 6).length = 6 := padded_length j 6 (by decide) (by omega)
  have l3 : (padded ((price i s j % 1000 : Nat) : Int) 3).length = 3 := padded_length _ 3 (by decide) (by omega)
  have v6 := padded_val j 6
  have v3 := padded_val (price i s j % 1000) 3
  have d6 := padded_digits j 6
  have d3 := padded_digits (price i s j % 1000) 3
  have hlen : (line code i s j).length = code.length + 15 + Lib.nDigits (100 * j) + Lib.nDigits (1 + price i s j / 1000) := by
    unfold line
    rw [itoa_nat, itoa_nat]
    simp only [List.length_append, List.length_cons, List.length_nil, Lib.decDigits_length, l6, l3]
    omega
  unfold line at h
  rw [itoa_nat, itoa_nat] at h
  have s0 := h.left
  have h1 := h.right
  have s1 := h1.left
  have h2 := h1.right
  have s2 := h2.left
  have h3 := h2.right
  have s3 := h3.left
  have h4 := h3.right
  have s4 := h4.left
  have h5 := h4.right
  have s5 := h5.left
  have h6 := h5.right
  have s6 := h6.left
  have h7 := h6.right
  have s7 := h7.left
  have h8 := h7.right
  have s8 := h8.left
  have h9 := h8.right
  simp only [List.length_cons, List.length_nil, l6, l3, Lib.decDigits_length] at h1 h2 h3 h4 h5 h6 h7 h8 h9 s1 s2 s3 s4 s5 s6 s7 s8
  have n1 := Lib.nDigits_pos (100 * j)
  have n2 := Lib.nDigits_pos (1 + price i s j / 1000)
  have n3 : Lib.nDigits (100 * j) ≤ 5 := nDigits_le 5 _ (by decide) (by omega)
  have n4 : Lib.nDigits (1 + price i s j / 1000) ≤ 3 := nDigits_le 3 _ (by decide) (by omega)
  have b2 := s2.cast (q := P + code.length + 2) (by omega)
  have b3 := s3.cast (q := P + code.length + 8) (by omega)
  have b4 := s4.cast (q := P + code.length + 9) (by omega)
  have b5 := s5.cast (q := P + code.length + 9 + Lib.nDigits (100 * j)) (by omega)
  have b6 := s6.cast (q := P + code.length + 10 + Lib.nDigits (100 * j)) (by omega)
  have b7 := s7.cast (q := P + code.length + 10 + Lib.nDigits (100 * j) + Lib.nDigits (1 + price i s j / 1000)) (by omega)
  have b8 := s8.cast (q := P + code.length + 11 + Lib.nDigits (100 * j) + Lib.nDigits (1 + price i s j / 1000)) (by omega)
  have b9 := h9.cast (q := P + code.length + 14 + Lib.nDigits (100 * j) + Lib.nDigits (1 + price i s j / 1000)) (by omega)
  have f4 := b4 0 (by rw [Lib.decDigits_length]; omega)
  have f6 := b6 0 (by rw [Lib.decDigits_length]; omega)
  rw [Nat.add_zero] at f4 f6
  refine ⟨s0, seg_one s1, ?_, ?_, ?_, seg_one b3, ?_, ?_, ?_, seg_one b5, ?_, ?_, ?_, seg_one b7, ?_, ?_, seg_one b9, n1, n3, n2, n4, hlen⟩
  · have := s1 1 (by simp)
    rw [this]
    rfl
  · rw [b2.val 6 (by omega)]
    rw [l6] at v6
    exact v6
  · intro t ht
    rw [b2 t (by omega)]
    exact d6 t (by omega)
  · rw [b4.val _ (by rw [Lib.decDigits_length]; omega)]
    exact dec_val _
  · intro t ht
    rw [b4 t (by rw [Lib.decDigits_length]; omega)]
    exact decDigits_are _ t ht
  · rw [f4]
    exact first_digit _ (by omega)
  · rw [b6.val _ (by rw [Lib.decDigits_length]; omega)]
    exact dec_val _
  · intro t ht
    rw [b6 t (by rw [Lib.decDigits_length]; omega)]
    exact decDigits_are _ t ht
  · rw [f6]
    exact first_digit _ (by omega)
  · rw [b8.val 3 (by omega)]
    rw [l3] at v3
    exact v3
  · intro t ht
    rw [b8 t (by omega)]
    exact d3 t (by omega)

end Go.Proofs.Qxb6605458aDoor
