import Derived.Test.Qxb6605458aDoorPadded
import Derived.Test.Qxb6605458aDoorClone
import Derived.Outline
namespace Go.Proofs.Qxb6605458aDoor
open Go.RowKit

/-- What is known of a byte slice that came in. -/
def ArgRow (w : World) (ao : Option Addr) (n : Nat) (l : List UInt8) : Prop :=
  l.length = n ∧ (ao = none → n = 0) ∧ ∀ ad, ao = some ad → ∀ j, j < n → w.cell? (ad.add j) = some (.int .u8 (byteAt l j))

/-- A clone of the bytes l: nil, or a block of its own, full. -/
def Cl (w : World) (ao : Option Addr) (n : Nat) (l : List UInt8) : Prop :=
  l.length = n ∧ ((ao = none ∧ n = 0) ∨ ∃ g, ao = some ⟨g, 0, none⟩ ∧ w.heap[g]? = some (.cells (Lib.byteCells l).toArray 5 (0, 0)))

theorem Cl.below {w w' : World} {ao : Option Addr} {n : Nat} {l : List UInt8} (h : Cl w ao n l) (hb : Below w.heap.size w w') : Cl w' ao n l := by
  obtain ⟨h1, h2 | ⟨g, h2, h3⟩⟩ := h
  · exact ⟨h1, .inl h2⟩
  · exact ⟨h1, .inr ⟨g, h2, by rw [hb.block g (Array.getElem?_eq_some_iff.1 h3).1]; exact h3⟩⟩

theorem Cl.own {w : World} {ao : Option Addr} {n : Nat} {l : List UInt8} (h : Cl w ao n l) (hm : n ≤ maxLen) : (ao = none ∧ n = 0) ∨ ∃ g, ao = some ⟨g, 0, none⟩ ∧ g < w.heap.size ∧ w.ownsRow g 5 1 (.slice ao n n) n (Lib.byteCells l) := by
  obtain ⟨h1, h2 | ⟨g, h2, h3⟩⟩ := h
  · exact .inl h2
  · refine .inr ⟨g, h2, (Array.getElem?_eq_some_iff.1 h3).1, ?_⟩
    subst h2
    refine ⟨by rw [Lib.byteCells_length]; omega, .inr ⟨g, n, _, rfl, Nat.le_refl _, h3, Nat.le_refl _, hm, by simp [Lib.byteCells_length]; omega, ?_⟩⟩
    simp only [Nat.mul_one]
    exact List.take_of_length_le (by rw [Lib.byteCells_length]; omega)

theorem Cl.slc {w : World} {ao : Option Addr} {n : Nat} {l : List UInt8} (h : Cl w ao n l) (hm : n ≤ maxLen) : Slc w w.heap.size (.slice ao n n) n (Lib.byteCells l) := by
  rcases h.own hm with ⟨h1, h2⟩ | ⟨g, h1, h2, h3⟩
  · have hl : l = [] := List.eq_nil_of_length_eq_zero (by rw [h.1]; exact h2)
    subst h1; subst h2; subst hl
    exact .inl (World.ownsRow_nil _ _ _ _)
  · exact .inr ⟨g, h2, by rw [h1], h3⟩

theorem Cl.arg {w : World} {ao : Option Addr} {n : Nat} {l : List UInt8} (h : Cl w ao n l) (hm : n ≤ maxLen) : ArgRow w ao n l := by
  refine ⟨h.1, ?_, ?_⟩
  · intro e
    obtain ⟨_, h2 | ⟨g, h2, h3⟩⟩ := h
    · exact h2.2
    · rw [e] at h2; cases h2
  · intro ad had j hj
    rcases h.own hm with ⟨h1, h2⟩ | ⟨g, h1, h2, h3⟩
    · omega
    · rw [h1] at had
      cases had
      exact h3.cells (g := g) (by rw [h1]; rfl) j _ (byteCells_get l j (by rw [h.1]; exact hj))

theorem Cl.row {w : World} {ao : Option Addr} {n : Nat} {l : List UInt8} (h : Cl w ao n l) (hm : n ≤ maxLen) : Row8 w ao l := by
  obtain ⟨h1, h2 | ⟨g, h2, h3⟩⟩ := h
  · exact .inl (List.eq_nil_of_length_eq_zero (by omega))
  · refine .inr ⟨g, 0, h2, fun j hj => ?_⟩
    have h4 := (Cl.arg ⟨h1, .inr ⟨g, h2, h3⟩⟩ hm).2.2 _ h2 j (by omega)
    rw [Addr.add_lit] at h4
    simpa using h4

/-- An owned row of bytes, read. -/
theorem own_row {w : World} {B n : Nat} {v : Value} {l : List UInt8} (h : w.ownsRow B 5 1 v n (Lib.byteCells l)) (hn : 0 < n) : ∃ g cap, v = .slice (some ⟨g, 0, none⟩) n cap ∧ n ≤ cap ∧ cap ≤ maxLen ∧ l.length = n ∧ B ≤ g ∧ ∀ j, j < l.length → w.cell? ⟨g, j, none⟩ = some (.int .u8 (byteAt l j)) := by
  have hl : l.length = n := by have := h.1; rw [Lib.byteCells_length] at this; omega
  rcases h.2 with ⟨_, h0⟩ | ⟨g, cap, cur, hv, hb, hg, h1, h2, h3, h4⟩
  · omega
  · refine ⟨g, cap, hv, h1, h2, hl, hb, fun j hj => ?_⟩
    have := h.cells (g := g) (by rw [hv]; rfl) j _ (byteCells_get l j hj)
    rw [Addr.add_lit] at this
    simpa using this

theorem clone_any (ao : Option Addr) (n c : Nat) (l : List UInt8) (w : World) (harg : ArgRow w ao n l) (hn : n ≤ 1048576) :
    Calls Tryd.prog 6 #[.slice ao n c] w fun e w' => ∃ ao', e = .returned (.slice ao' n n) ∧ Cl w' ao' n l ∧ Below w.heap.size w w' := by
  obtain ⟨hl, h0, h1⟩ := harg
  cases ao with
  | none =>
    obtain rfl := h0 rfl
    refine (clone_nil 0 c w).mono fun e w' ⟨he, hw⟩ => ?_
    subst hw
    exact ⟨none, he, ⟨hl, .inl ⟨rfl, rfl⟩⟩, Below.refl _ _⟩
  | some ad =>
    refine (clone_some ad n c l w hl (h1 ad rfl) hn).mono fun e w' ⟨he, hw, hb⟩ => ?_
    exact ⟨_, he, ⟨hl, .inr ⟨_, rfl, hw⟩⟩, hb⟩

set_option maxHeartbeats 400000 in
theorem zzpadded_any (B n : Nat) (i width : Int) (hi0 : -9223372036854775808 ≤ i) (hi1 : i ≤ 9223372036854775807) (hw0 : -65536 ≤ width) (hw1 : width ≤ 65536) (sv : Value) (xs : List Value) (w : World)
    (hslc : Slc w B sv n xs) (hB : B ≤ w.heap.size) (hn : n ≤ 1099511627776) (htab : Tab B w) :
    Calls Tryd.prog 7 #[sv, .int .i64 i, .int .i64 width] w fun e w' => ∃ v', e = .returned v' ∧ w'.ownsRow B 5 1 v' (n + (padded i width).length) (xs ++ Lib.byteCells (padded i width)) ∧ Below B w w' := by
  have HP := Lib.hid (padded_any B n i width hi0 hi1 hw0 hw1 sv xs w hslc hB hn htab)
  obtain ⟨a, c, rfl⟩ := hslc.shape
  clear hslc
  go_enter Tryd.func7, Tryd.ntmps7
  go_wp2_with (go_at_call 16; refine HP.out.mono ?_; rintro e w1 ⟨v', rfl, hown, hb1⟩)
  have HO := Lib.hid hown
  go_ret
  exact ⟨_, rfl, HO.out, hb1⟩

theorem nd19 (i : Int) (h0 : -9223372036854775808 ≤ i) (h1 : i ≤ 9223372036854775807) : Lib.nDigits i.natAbs ≤ 19 := by
  refine nDigits_le 19 _ (by decide) ?_
  have e : (10 : Nat) ^ 19 = 10000000000000000000 := by decide
  omega

theorem padded_len (i width : Int) : (padded i width).length = (width - (Lib.itoa i).length).toNat + (Lib.itoa i).length := by simp [padded]

theorem pd_zero (i width : Int) (Z : Nat) (hZ : Z = (width - (Lib.itoa i).length).toNat) (k : Nat) (hk : k < Z) : byteAt (padded i width) k = 48 := by
  unfold padded
  rw [← hZ, byteAt_left _ _ _ (by simpa using hk), byteAt_replicate _ _ _ hk]
  rfl

theorem pd_at (i width : Int) (Z : Nat) (hZ : Z = (width - (Lib.itoa i).length).toNat) (t : Nat) : byteAt (padded i width) (Z + t) = byteAt (Lib.itoa i) t := by
  unfold padded
  rw [← hZ]
  have := byteAt_right (List.replicate Z 48) (Lib.itoa i) t
  simpa using this

theorem pd_sign (i width : Int) (Z : Nat) (hZ : Z = (width - (Lib.itoa i).length).toNat) (h : i < 0) : byteAt (padded i width) Z = 45 := by
  have := pd_at i width Z hZ 0
  rw [Nat.add_zero] at this
  rw [this]
  unfold Lib.itoa
  rw [if_pos h]
  rfl

theorem pd_neg (i width : Int) (Z : Nat) (hZ : Z = (width - (Lib.itoa i).length).toNat) (h : i < 0) (t : Nat) : byteAt (padded i width) (Z + 1 + t) = byteAt (Lib.decDigits i.natAbs) t := by
  rw [Nat.add_assoc, pd_at i width Z hZ (1 + t)]
  unfold Lib.itoa
  rw [if_pos h, Nat.add_comm]
  simp [byteAt, List.getD]

theorem pd_pos (i width : Int) (Z : Nat) (hZ : Z = (width - (Lib.itoa i).length).toNat) (h : ¬ i < 0) (t : Nat) : byteAt (padded i width) (Z + t) = byteAt (Lib.decDigits i.natAbs) t := by
  rw [pd_at i width Z hZ t]
  unfold Lib.itoa
  rw [if_neg h]
  congr 2
  omega

set_option maxHeartbeats 400000 in
theorem law3_early (ao : Option Addr) (n c : Nat) (i width : Int) (w : World) (hn : n ≤ maxLen) (h : 1048576 < n ∨ (n ≤ 1048576 ∧ width < -65536) ∨ (n ≤ 1048576 ∧ 65536 < width)) :
    Calls Tryd.prog 3 #[.slice ao n c, .int .i64 i, .int .i64 width] w fun e w' => e = .returned (.bool true) ∧ w' = w := by
  rcases h with h | ⟨h, h2⟩ | ⟨h, h2⟩
  · have hd : decide (n ≤ 1048576) = false := by simp; omega
    go_enter Tryd.func3, Tryd.ntmps3
    go_wp2_with (go_at_call 5; refine (bytes5_any _ _ _ _ _ _ hn).mono ?_; rintro e w' ⟨rfl, rfl⟩)
    go_ret
    exact ⟨rfl, rfl⟩
  · have hd : decide (n ≤ 1048576) = true := by simp; omega
    go_enter Tryd.func3, Tryd.ntmps3
    go_wp2_with (go_at_call 5; refine (bytes5_any _ _ _ _ _ _ hn).mono ?_; rintro e w' ⟨rfl, rfl⟩)
    go_ret
    exact ⟨rfl, rfl⟩
  · have hd : decide (n ≤ 1048576) = true := by simp; omega
    go_enter Tryd.func3, Tryd.ntmps3
    go_wp2_with (go_at_call 5; refine (bytes5_any _ _ _ _ _ _ hn).mono ?_; rintro e w' ⟨rfl, rfl⟩)
    go_ret
    exact ⟨rfl, rfl⟩

set_option maxHeartbeats 2000000 in
theorem law3_main (ao : Option Addr) (n c : Nat) (l : List UInt8) (i width : Int) (w : World) (harg : ArgRow w ao n l) (hn : n ≤ 1048576) (hi0 : -9223372036854775808 ≤ i) (hi1 : i ≤ 9223372036854775807) (hw0 : -65536 ≤ width) (hw1 : width ≤ 65536)
    (htab : Tab w.heap.size w) :
    Calls Tryd.prog 3 #[.slice ao n c, .int .i64 i, .int .i64 width] w fun e w' => e = .returned (.bool true) ∧ Below w.heap.size w w' := by
  have hd : decide (n ≤ 1048576) = true := by simp; omega
  have hm : n ≤ maxLen := by unfold maxLen; omega
  have HA := Lib.hid harg
  have HT := Lib.hid htab
  clear harg htab
  go_enter Tryd.func3, Tryd.ntmps3
  go_wp2_with (go_at_call 5; refine (bytes5_any _ _ _ _ _ _ hm).mono ?_; rintro e w0 ⟨rfl, rfl⟩)
  refine (clone_any ao n c l w0 HA.out hn).mono ?_
  rintro e w1 ⟨ao1, rfl, hc1, hb1⟩
  go_wp2_with fail
  refine (clone_any ao1 n n l w1 (hc1.arg hm) hn).mono ?_
  rintro e w2 ⟨ao2, rfl, hc2, hb2⟩
  have hs1 := (hc1.below hb2).slc hm
  have hT2 : Tab w2.heap.size w2 := fun w' hb => HT.out w' ((hb1.trans (hb2.mono hb1.size)).trans (hb.mono (by have := hb1.size; have := hb2.size; omega)))
  have hB2 : Below w0.heap.size w0 w2 := hb1.trans (hb2.mono hb1.size)
  have HC2 := Lib.hid hc2
  have HS1 := Lib.hid hs1
  have HT2 := Lib.hid hT2
  clear hc1 hc2 hs1 hT2 hb1 hb2
  have hL := Lib.itoa_length_le i hi0 hi1
  have hLe := itoa_len i
  have hnd := Lib.nDigits_pos i.natAbs
  have hpl := padded_len i width
  have hz := zzpadded_any w2.heap.size n i width hi0 hi1 hw0 hw1 _ _ w2 HS1.out (Nat.le_refl _) (by omega) HT2.out
  obtain ⟨pd, hpd⟩ : ∃ pd, pd = padded i width := ⟨_, rfl⟩
  rw [← hpd] at hz hpl
  obtain ⟨m, hm'⟩ : ∃ m, m = pd.length := ⟨_, rfl⟩
  rw [← hm'] at hz hpl
  have HZ := Lib.hid hz
  have HPD := Lib.hid hpd
  have HLE := Lib.hid hLe
  have HPL := Lib.hid hpl
  have HML := Lib.hid hm'
  clear hz hpd hLe hpl hm'
  go_wp2_with fail
  refine HZ.out.mono ?_
  rintro e w3 ⟨v3, rfl, hown, hb3⟩
  have hm' := HML.out
  have hLe := HLE.out
  have hpl := HPL.out
  rw [← Lib.byteCells_append] at hown
  obtain ⟨g, cap, hv3, hNc, hcm, hlen, hBg, hcell⟩ := own_row hown (by omega)
  rw [hv3]
  have hrow3 : Row8 w3 (some ⟨g, 0, none⟩) (l ++ pd) := .inr ⟨g, 0, rfl, fun j hj => by rw [Nat.zero_add]; exact hcell j hj⟩
  have hrow2 : Row8 w3 ao2 l := (HC2.out.below hb3).row hm
  have hB3 : Below w0.heap.size w0 w3 := hB2.trans (hb3.mono (by have := hB2.size; omega))
  have hln : l.length = n := HC2.out.1
  have hpre : ∀ j, j < n → byteAt (l ++ pd) j = byteAt l j := fun j hj => byteAt_left _ _ _ (by omega)
  have hnd19 := nd19 i hi0 hi1
  obtain ⟨nd, hnd'⟩ : ∃ nd, nd = Lib.nDigits i.natAbs := ⟨_, rfl⟩
  have hcount := fun wx => count_any i.natAbs wx (by omega)
  have hmag := fun wx => magnitude_any i wx hi0 hi1
  rw [← hnd'] at hLe hnd hnd19 hcount
  have HCO := Lib.hid hcount
  have HMA := Lib.hid hmag
  have HND := Lib.hid hnd'
  have HPR := Lib.hid hpre
  have HR3 := Lib.hid hrow3
  have HR2 := Lib.hid hrow2
  have HLN := Lib.hid hln
  have HLEN := Lib.hid hlen
  have HCE := Lib.hid hcell
  have hmpos : 0 < m := by omega
  have hmb : m ≤ 70000 := by omega
  rw [hLe] at hpl
  unfold maxLen at hcm
  have HPM := Lib.hid hpl
  clear hcount hmag hnd' hpre hrow3 hrow2 hln hlen hcell hpl hLe hm' hown hb3 hL hd HS1 HT2 hv3
  go_wp2_with fail
  refine (prefix_any _ _ (n + m) cap n n (l ++ pd) l w3 (by omega) (by rw [HLEN.out]) HLN.out HR3.out HR2.out (by omega) HPR.out).mono ?_
  rintro e w4 ⟨rfl, q, rfl⟩
  go_wp2_with fail
  refine (HMA.out _).mono ?_
  rintro e w5 ⟨rfl, rfl⟩
  go_wp2_with fail
  refine (HCO.out _).mono ?_
  rintro e w6 ⟨rfl, rfl⟩
  have PZ : Hid (∀ Z : Nat, Z = (width - (Lib.itoa i).length).toNat → ∀ k, k < Z → byteAt pd k = 48) := fun Z hZ k hk => by
    rw [HPD.out]; exact pd_zero i width Z hZ k hk
  have PS : Hid (i < 0 → ∀ Z : Nat, Z = (width - (Lib.itoa i).length).toNat → byteAt pd Z = 45) := fun h Z hZ => by
    rw [HPD.out]; exact pd_sign i width Z hZ h
  have PN : Hid (i < 0 → ∀ Z : Nat, Z = (width - (Lib.itoa i).length).toNat → ∀ t, t < nd → byteAt pd (Z + 1 + t) = byteAt (Lib.decDigits i.natAbs) t) := fun h Z hZ t _ => by
    rw [HPD.out]; exact pd_neg i width Z hZ h t
  have PP : Hid (¬ i < 0 → ∀ Z : Nat, Z = (width - (Lib.itoa i).length).toNat → ∀ t, t < nd → byteAt pd (Z + t) = byteAt (Lib.decDigits i.natAbs) t) := fun h Z hZ t _ => by
    rw [HPD.out]; exact pd_pos i width Z hZ h t
  have HLE2 : Hid ((Lib.itoa i).length = nd + (if i < 0 then 1 else 0)) := by rw [HND.out]; exact HLE.out
  have CE : Hid (∀ k, k < m → w3.cell? ⟨g, n + k, none⟩ = some (.int .u8 (byteAt pd k))) := fun k hk => by
    have h1 := HCE.out (n + k) (by have := HLEN.out; omega)
    have h2 := byteAt_right l pd k
    rw [HLN.out] at h2
    rw [h1, h2]
  have FX : Hid (∀ (pos : Nat) (p : Int), p = pos → pos + nd ≤ m → (∀ t, t < nd → byteAt pd (pos + t) = byteAt (Lib.decDigits i.natAbs) t) →
      Calls Tryd.prog 11 #[.slice (some ⟨g, n, none⟩) m (cap - n), .int .i64 p, .int .i64 (nd : Int)] (w3.drewN q) fun e w' => e = .returned (.tuple #[.int .u64 (i.natAbs : Int), .bool true]) ∧ w' = w3.drewN q) := fun pos p hp hb ht => by
    subst hp
    have hv := valAt_decDigits pd pos i.natAbs (by rw [← HND.out]; exact ht)
    rw [← HND.out] at hv
    rw [← hv]
    exact fixed_any (some ⟨g, n, none⟩) m (cap - n) pd pos nd (w3.drewN q) (by omega) HML.out.symm (.inr ⟨g, n, rfl, fun j hj => by have := HML.out; simpa using CE.out j (by omega)⟩) (by omega) hb
      (fun j hj => by rw [ht j hj]; exact decDigits_are i.natAbs j (by rw [← HND.out]; exact hj))
  by_cases hneg : i < 0
  · have hpm : m = (width - (nd + 1 : Nat)).toNat + (nd + 1) := by have := HPM.out; rw [if_pos hneg] at this; exact this
    have HPM2 := Lib.hid hpm
    by_cases hwl : ((nd : Int) + 1) < width
    · have hne : ((m : Int) != width) = false := by simp; omega
      obtain ⟨Z, hZ⟩ : ∃ Z : Nat, Z = (width - (nd + 1 : Nat)).toNat := ⟨_, rfl⟩
      have hZ1 : (Z : Int) ≤ width - (nd + 1) := by omega
      have hZ2 : width - (nd + 1) ≤ (Z : Int) := by omega
      have hZm : Z + (nd + 1) ≤ m := by omega
      have hz0 := PZ.out Z (by rw [hZ]; have := HLE2.out; rw [if_pos hneg] at this; rw [this])
      have hsg := PS.out hneg Z (by rw [hZ]; have := HLE2.out; rw [if_pos hneg] at this; rw [this])
      have hdg := PN.out hneg Z (by rw [hZ]; have := HLE2.out; rw [if_pos hneg] at this; rw [this])
      have hcs : w3.cell? ⟨g, n + (width - (↑nd + 1)).toNat, none⟩ = some (.int .u8 45) := by
        rw [← hsg, show (width - ((nd : Int) + 1)).toNat = Z by omega]
        exact CE.out Z (by omega)
      have HDG := Lib.hid hdg
      have HZ0 := Lib.hid hz0
      clear hpm hZ hz0 hsg hdg
      go_wp2_with fail
      go_loop [15] (fun q => ∃ k : Nat, k ≤ Z ∧ q = .int .i64 k) (fun q => Z - (intOf q).toNat)
      case atStart => exact ⟨0, Nat.zero_le _, rfl⟩
      case round =>
        obtain ⟨k, hk, rfl⟩ := hrel
        by_cases hlt : k < Z
        · have hck : w3.cell? ⟨g, n + k, none⟩ = some (.int .u8 48) := by
            rw [← HZ0.out k hlt]
            exact CE.out k (by omega)
          go_wp2_with fail
          go_round
          case rel => exact ⟨k + 1, by omega, by go_num⟩
          case measure => simp [intOf]; omega
        · go_wp2_with fail
          refine (FX.out (Z + 1) _ (by omega) (by omega) HDG.out).mono ?_
          rintro e w7 ⟨rfl, rfl⟩
          go_wp2_with fail
          go_ret
          exact ⟨rfl, hB3.trans ⟨rfl, rfl, rfl, Nat.le_refl _, fun _ _ => rfl⟩⟩
    · have hne : ((m : Int) != (nd : Int) + 1) = false := by simp; omega
      have hZw : (width - (nd + 1 : Nat)).toNat = 0 := by omega
      have hsg := PS.out hneg 0 (by have := HLE2.out; rw [if_pos hneg] at this; rw [this, hZw])
      have hdg := PN.out hneg 0 (by have := HLE2.out; rw [if_pos hneg] at this; rw [this, hZw])
      have hcs : w3.cell? ⟨g, n, none⟩ = some (.int .u8 45) := by
        rw [← hsg]
        exact CE.out 0 (by omega)
      have hmn : nd + 1 ≤ m := by omega
      have HDG := Lib.hid hdg
      clear hpm hsg hdg hZw
      go_wp2_with fail
      go_loop [15] (fun q => q = .int .i64 0) (fun _ => 0)
      case atStart => rfl
      case round =>
        subst hrel
        go_wp2_with fail
        refine (FX.out (0 + 1) _ (by omega) (by omega) HDG.out).mono ?_
        rintro e w7 ⟨rfl, rfl⟩
        go_wp2_with fail
        go_ret
        exact ⟨rfl, hB3.trans ⟨rfl, rfl, rfl, Nat.le_refl _, fun _ _ => rfl⟩⟩
  · have hpm : m = (width - (nd : Nat)).toNat + nd := by have := HPM.out; rw [if_neg hneg] at this; exact this
    by_cases hwl : (nd : Int) < width
    · have hne : ((m : Int) != width) = false := by simp; omega
      obtain ⟨Z, hZ⟩ : ∃ Z : Nat, Z = (width - (nd : Nat)).toNat := ⟨_, rfl⟩
      have hZ1 : (Z : Int) ≤ width - nd := by omega
      have hZ2 : width - nd ≤ (Z : Int) := by omega
      have hZm : Z + nd ≤ m := by omega
      have hz0 := PZ.out Z (by rw [hZ]; have := HLE2.out; rw [if_neg hneg] at this; rw [this]; rfl)
      have hdg := PP.out hneg Z (by rw [hZ]; have := HLE2.out; rw [if_neg hneg] at this; rw [this]; rfl)
      have HDG := Lib.hid hdg
      have HZ0 := Lib.hid hz0
      clear hpm hZ hz0 hdg
      go_wp2_with fail
      go_loop [15] (fun q => ∃ k : Nat, k ≤ Z ∧ q = .int .i64 k) (fun q => Z - (intOf q).toNat)
      case atStart => exact ⟨0, Nat.zero_le _, rfl⟩
      case round =>
        obtain ⟨k, hk, rfl⟩ := hrel
        by_cases hlt : k < Z
        · have hck : w3.cell? ⟨g, n + k, none⟩ = some (.int .u8 48) := by
            rw [← HZ0.out k hlt]
            exact CE.out k (by omega)
          go_wp2_with fail
          go_round
          case rel => exact ⟨k + 1, by omega, by go_num⟩
          case measure => simp [intOf]; omega
        · go_wp2_with fail
          refine (FX.out Z _ (by omega) (by omega) HDG.out).mono ?_
          rintro e w7 ⟨rfl, rfl⟩
          go_wp2_with fail
          go_ret
          exact ⟨rfl, hB3.trans ⟨rfl, rfl, rfl, Nat.le_refl _, fun _ _ => rfl⟩⟩
    · have hne : ((m : Int) != (nd : Int)) = false := by simp; omega
      have hZw : (width - (nd : Nat)).toNat = 0 := by omega
      have hdg := PP.out hneg 0 (by have := HLE2.out; rw [if_neg hneg] at this; rw [this]; exact hZw.symm)
      have hmn : nd ≤ m := by omega
      have HDG := Lib.hid hdg
      clear hpm hdg hZw
      go_wp2_with fail
      go_loop [15] (fun q => q = .int .i64 0) (fun _ => 0)
      case atStart => rfl
      case round =>
        subst hrel
        go_wp2_with fail
        refine (FX.out 0 _ (by omega) (by omega) HDG.out).mono ?_
        rintro e w7 ⟨rfl, rfl⟩
        go_wp2_with fail
        go_ret
        exact ⟨rfl, hB3.trans ⟨rfl, rfl, rfl, Nat.le_refl _, fun _ _ => rfl⟩⟩

end Go.Proofs.Qxb6605458aDoor
