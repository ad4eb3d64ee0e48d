import Derived.Test.Qxb6605469aPlain
namespace Go.Proofs.Qxb6605469a

/-- The j-th string of a list. -/
def strAt (ss : List ByteArray) (j : Nat) : ByteArray := ss.getD j ByteArray.empty

/-- Labels written as RFC 1035 writes them. -/
def enc (ss : List ByteArray) : List UInt8 := ss.flatMap fun s => UInt8.ofNat s.size :: s.data.toList
/-- The wire length of the first k labels. -/
def wire (ss : List ByteArray) : Nat → Nat
  | 0 => 0
  | k + 1 => wire ss k + (1 + (strAt ss k).size)

theorem enc_append (a b : List ByteArray) : enc (a ++ b) = enc a ++ enc b := by simp [enc]
theorem enc_cons (s : ByteArray) (b : List ByteArray) : enc (s :: b) = UInt8.ofNat s.size :: (s.data.toList ++ enc b) := by simp [enc]

theorem strAt_get (ss : List ByteArray) (k : Nat) (h : k < ss.length) : strAt ss k = ss[k] := by
  unfold strAt
  rw [List.getD_eq_getElem?_getD, List.getElem?_eq_getElem h]
  rfl

theorem take_snocS (ss : List ByteArray) (k : Nat) (h : k < ss.length) : ss.take (k + 1) = ss.take k ++ [strAt ss k] := by
  rw [List.take_succ_eq_append_getElem h, strAt_get ss k h]

theorem enc_take (ss : List ByteArray) (k : Nat) (h : k < ss.length) : enc (ss.take (k + 1)) = enc (ss.take k) ++ (UInt8.ofNat (strAt ss k).size :: (strAt ss k).data.toList) := by
  rw [take_snocS ss k h, enc_append, enc_cons]
  simp [enc]

theorem wire_len (ss : List ByteArray) : ∀ k, k ≤ ss.length → (enc (ss.take k)).length = wire ss k
  | 0, _ => by simp [enc, wire]
  | k + 1, h => by
    rw [enc_take ss k (by omega), List.length_append, wire_len ss k (by omega), wire, List.length_cons]
    have : (strAt ss k).data.toList.length = (strAt ss k).size := rfl
    omega

theorem wire_mono (ss : List ByteArray) {j k : Nat} (h : j ≤ k) : wire ss j + (k - j) ≤ wire ss k := by
  induction k with
  | zero => have : j = 0 := by omega
            subst this; simp
  | succ k ih =>
    by_cases hj : j = k + 1
    · subst hj; simp
    · have := ih (by omega)
      simp only [wire]
      omega

/-- The labels of a name: each of 1 to 63 bytes. -/
def Legal (ss : List ByteArray) : Prop := ∀ k, k < ss.length → 1 ≤ (strAt ss k).size ∧ (strAt ss k).size ≤ 63

theorem wire_le (ss : List ByteArray) (h : Legal ss) : ∀ k, k ≤ ss.length → wire ss k ≤ 64 * k
  | 0, _ => by simp [wire]
  | k + 1, hk => by have := wire_le ss h k (by omega); have := h k (by omega); simp only [wire]; omega

/-- The message: bytes, the labels, a tail. -/
def msgOf (pre : List UInt8) (ss : List ByteArray) (t : List UInt8) : List UInt8 := pre ++ (enc ss ++ t)

theorem msg_len (pre : List UInt8) (ss : List ByteArray) (t : List UInt8) : (msgOf pre ss t).length = pre.length + wire ss ss.length + t.length := by
  have := wire_len ss ss.length (Nat.le_refl _)
  rw [List.take_length] at this
  simp [msgOf, this]
  omega

theorem msg_split (pre : List UInt8) (ss : List ByteArray) (t : List UInt8) (k : Nat) (h : k < ss.length) :
    ∃ r, msgOf pre ss t = (pre ++ enc (ss.take k)) ++ (UInt8.ofNat (strAt ss k).size :: ((strAt ss k).data.toList ++ r)) := by
  refine ⟨enc (ss.drop (k + 1)) ++ t, ?_⟩
  have h1 : ss = ss.take k ++ (strAt ss k :: ss.drop (k + 1)) := by
    rw [strAt_get ss k h, List.getElem_cons_drop, List.take_append_drop]
  unfold msgOf
  conv => lhs; rw [h1]
  rw [enc_append, enc_cons]
  simp [List.append_assoc]

theorem head_byte (a b : List UInt8) (x : UInt8) : byteAt (a ++ (x :: b)) a.length = (x.toNat : Int) := by
  have := byteAt_right a (x :: b) 0
  rw [Nat.add_zero] at this
  rw [this]
  rfl

theorem msg_size (pre : List UInt8) (ss : List ByteArray) (t : List UInt8) (hl : Legal ss) (k : Nat) (h : k < ss.length) : byteAt (msgOf pre ss t) (pre.length + wire ss k) = ((strAt ss k).size : Int) := by
  obtain ⟨r, hr⟩ := msg_split pre ss t k h
  have hb := head_byte (pre ++ enc (ss.take k)) ((strAt ss k).data.toList ++ r) (UInt8.ofNat (strAt ss k).size)
  rw [List.length_append, wire_len ss k (by omega)] at hb
  rw [hr, hb]
  have := hl k h
  rw [UInt8.toNat_ofNat_of_lt' (by show (strAt ss k).size < 256; omega)]

theorem msg_pos (pre : List UInt8) (ss : List ByteArray) (t : List UInt8) (hl : Legal ss) : ∀ k, k ≤ ss.length → posAt (msgOf pre ss t) pre.length k = pre.length + wire ss k
  | 0, _ => rfl
  | k + 1, h => by
    simp only [posAt]
    rw [msg_pos pre ss t hl k (by omega), msg_size pre ss t hl k (by omega)]
    simp only [wire]
    omega

theorem msg_tail (pre : List UInt8) (ss : List ByteArray) (x : UInt8) (t : List UInt8) : byteAt (msgOf pre ss (x :: t)) (pre.length + wire ss ss.length) = (x.toNat : Int) := by
  have h := wire_len ss ss.length (Nat.le_refl _)
  rw [List.take_length] at h
  have hb := head_byte (pre ++ enc ss) t x
  rw [List.length_append, h] at hb
  unfold msgOf
  rw [← List.append_assoc]
  exact hb

theorem msg_label (pre : List UInt8) (ss : List ByteArray) (t : List UInt8) (hl : Legal ss) (k : Nat) (h : k < ss.length) : labelAt (msgOf pre ss t) pre.length k = (strAt ss k).data.toList.map low := by
  unfold labelAt
  rw [msg_pos pre ss t hl k (by omega), msg_size pre ss t hl k h, Int.toNat_natCast]
  congr 1
  obtain ⟨r, hr⟩ := msg_split pre ss t k h
  have hlen : pre.length + wire ss k + 1 = (pre ++ enc (ss.take k) ++ [UInt8.ofNat (strAt ss k).size]).length := by
    simp [wire_len ss k (by omega)]; omega
  have hr2 : msgOf pre ss t = (pre ++ enc (ss.take k) ++ [UInt8.ofNat (strAt ss k).size]) ++ ((strAt ss k).data.toList ++ r) := by
    rw [hr]; simp [List.append_assoc]
  rw [hr2, hlen, List.drop_left]
  have : (strAt ss k).size = (strAt ss k).data.toList.length := rfl
  rw [this, List.take_left]

/-- Where the sum of the labels stands when it stops. -/
structure Until (ss : List ByteArray) (K0 : Nat) : Prop where
  le : K0 ≤ ss.length
  below : ∀ j, j < K0 → wire ss j ≤ 254
  stop : K0 = ss.length ∨ 254 < wire ss K0

/-- No reader of this name stops ahead of 'K0'. -/
theorem not_early {pre : List UInt8} {ss : List ByteArray} {t : List UInt8} (hl : Legal ss) {K0 K : Nat} (hu : Until ss K0) (hK : K < K0)
    (h : NameOk (msgOf pre ss t) pre.length K ∨ NameNo (msgOf pre ss t) pre.length K) : False := by
  have hKL : K < ss.length := by have := hu.le; omega
  have hp := msg_pos pre ss t hl K (by omega)
  have hs := msg_size pre ss t hl K hKL
  have hk := hl K hKL
  have hw := hu.below K hK
  have hlen := msg_len pre ss t
  have hm := wire_mono ss (j := K + 1) (k := ss.length) (by omega)
  simp only [wire] at hm
  rcases h with ⟨_, _, h3, _⟩ | ⟨_, h2⟩
  · rw [hp, hs] at h3; omega
  · rw [hp, hs, hlen] at h2
    omega

theorem whole_le {pre : List UInt8} {ss : List ByteArray} {t : List UInt8} (hl : Legal ss) {K0 K : Nat} (hu : Until ss K0) (h : Whole (msgOf pre ss t) pre.length K) (h0 : K0 < K) (hend : K0 = ss.length → ∃ x r, t = x :: r ∧ (x = 0 ∨ 64 ≤ x.toNat)) : False := by
  obtain ⟨_, h1, h2, _, h5⟩ := h K0 h0
  rw [msg_pos pre ss t hl K0 hu.le] at h1 h2 h5
  rcases hu.stop with e | e
  · obtain ⟨x, r, rfl, hx⟩ := hend e
    rw [e, msg_tail] at h1 h2
    rcases hx with rfl | hx
    · simp at h1
    · omega
  · omega

theorem name_long {pre : List UInt8} {ss : List ByteArray} {t : List UInt8} (hl : Legal ss) {K0 K : Nat} (hu : Until ss K0) (hw : 254 < wire ss K0)
    (h : NameOk (msgOf pre ss t) pre.length K ∨ NameNo (msgOf pre ss t) pre.length K) (hend : K0 = ss.length → ∃ x r, t = x :: r ∧ (x = 0 ∨ 64 ≤ x.toNat)) : K = K0 ∧ ¬ NameOk (msgOf pre ss t) pre.length K := by
  have h1 : ¬ K < K0 := fun hK => not_early hl hu hK h
  have h2 : ¬ K0 < K := fun hK => by
    rcases h with h | h
    · exact whole_le hl hu h.1 hK hend
    · exact whole_le hl hu h.1 hK hend
  have e : K = K0 := by omega
  refine ⟨e, fun hok => ?_⟩
  have := hok.2.2.2
  rw [e, msg_pos pre ss t hl K0 hu.le] at this
  omega

theorem name_short {pre : List UInt8} {ss : List ByteArray} {x : UInt8} {r : List UInt8} (hl : Legal ss) {K0 K : Nat} (hu : Until ss K0) (hw : wire ss K0 ≤ 254) (hx : x = 0 ∨ 64 ≤ x.toNat)
    (h : NameOk (msgOf pre ss (x :: r)) pre.length K ∨ NameNo (msgOf pre ss (x :: r)) pre.length K) :
    K0 = ss.length ∧ K = ss.length ∧ (x = 0 → NameOk (msgOf pre ss (x :: r)) pre.length K) ∧ (x ≠ 0 → ¬ NameOk (msgOf pre ss (x :: r)) pre.length K) := by
  have e0 : K0 = ss.length := by rcases hu.stop with e | e <;> omega
  have h1 : ¬ K < K0 := fun hK => not_early hl hu hK h
  have h2 : ¬ K0 < K := fun hK => by
    rcases h with h | h
    · exact whole_le hl hu h.1 hK (fun _ => ⟨x, r, rfl, hx⟩)
    · exact whole_le hl hu h.1 hK (fun _ => ⟨x, r, rfl, hx⟩)
  have e : K = ss.length := by omega
  have hp := msg_pos pre ss (x :: r) hl ss.length (Nat.le_refl _)
  have ht := msg_tail pre ss x r
  have hlen := msg_len pre ss (x :: r)
  simp only [List.length_cons] at hlen
  refine ⟨e0, e, fun h0 => ?_, fun h0 hok => ?_⟩
  · rcases h with h | ⟨_, h⟩
    · exact h
    · subst h0
      rw [e, hp, ht, hlen] at h
      rw [e0] at hw
      simp at h
      omega
  · have := hok.2.2.1
    rw [e, hp, ht] at this
    rcases hx with hx | hx
    · exact h0 hx
    · omega

end Go.Proofs.Qxb6605469a
