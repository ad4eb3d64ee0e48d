import Derived.Test.Qxb6605458aDoorHold
namespace Go.Proofs.Qxb6605458aDoor
open Go.RowKit

theorem line_len (code : List UInt8) (i s j : Nat) (hj : 1 ≤ j) (hj2 : j ≤ 200) : (line code i s j).length ≤ code.length + 23 := by
  have h := lineAt (R := line code i s j) (P := 0) (code := code) (i := i) (s := s) hj hj2 (fun t _ => by rw [Nat.zero_add])
  have := h.nq5
  have := h.nw3
  rw [h.len]
  omega

theorem lines_len (code : List UInt8) (i s : Nat) : ∀ k, k ≤ 200 → (lines code i s k).length ≤ k * (code.length + 23)
  | 0, _ => by simp [lines]
  | k + 1, hk => by
    have h1 := lines_len code i s k (by omega)
    have h2 := line_len code i s (k + 1) (by omega) hk
    rw [lines, List.length_append, Nat.succ_mul]
    omega

theorem lines_succ (code : List UInt8) (i s k : Nat) : lines code i s (k + 1) = lines code i s k ++ line code i s (k + 1) := rfl

theorem price_cast (i s j : Nat) : ((i : Int) * 7919 + (j : Int) * 104729 + (s : Int)) % 100000 = ((price i s j : Nat) : Int) := by
  unfold price; omega

set_option maxHeartbeats 2000000 in
theorem holdings_any (B : Nat) (i s : Nat) (I S : Int) (hI : I = (i : Int)) (hS : S = (s : Int)) (hi : i ≤ 99999) (hs : s ≤ 1073741824) (code : ByteArray) (hc : code.size ≤ 4096) (sv : Value) (l : List UInt8) (w : World)
    (hslc : SlB w B sv l) (hB : B ≤ w.heap.size) (hn : l.length ≤ 1048576) (htab : Tab B w) :
    Calls Tryd.prog 17 #[sv, .string code, .int .i64 I, .int .i64 S] w fun e w' => ∃ v', e = .returned v' ∧ SlB w' B v' (l ++ lines code.data.toList i s 200) ∧ Below B w w' := by
  obtain ⟨a, c, hv⟩ := hslc.shape
  subst hv
  have hI0 : 0 ≤ I := by omega
  have hI1 : I ≤ 99999 := by omega
  have hS0 : 0 ≤ S := by omega
  have hS1 : S ≤ 1073741824 := by omega
  have HI := Lib.hid hI
  have HS := Lib.hid hS
  have HT := Lib.hid htab
  clear htab hI hS hi hs
  go_enter Tryd.func17, Tryd.ntmps17
  go_wp2_with fail
  go_loopw [0, 9] (fun v q wr => ∃ (k : Nat) (J : Int) (X : List UInt8), Hid (J = k + 1) ∧ 1 ≤ J ∧ J ≤ 201 ∧ q = .int .i64 J ∧ Hid (X = l ++ lines code.data.toList i s k) ∧ X.length ≤ 1048576 + k * (code.size + 23) ∧ SlB wr B v X ∧ Below B w wr) (fun _ q _ => (201 - intOf q).toNat)
  case atStart => exact ⟨0, 1, l, Lib.hid (by simp), by omega, by omega, rfl, Lib.hid (by simp [lines]), by omega, hslc, Below.refl _ _⟩
  case round =>
    obtain ⟨k, J, X, hJ, hJ1, hJ2, rfl, hX, hXl, hsl, hb⟩ := hrel
    have hBr : B ≤ wr.heap.size := by have := hb.size; omega
    have hXb : X.length ≤ 2000000 := by
      have := hJ.out
      have : k * (code.size + 23) ≤ 200 * (4096 + 23) := Nat.mul_le_mul (by omega) (by omega)
      omega
    have HXl := Lib.hid hXl
    clear hXl hslc
    by_cases hlt : J ≤ 200
    · go_wp2_with (at_builtin; refine wpList_appS rfl _ _ rfl B _ X rfl code hsl rfl (by omega) hBr ?_)
      intro v1 w1 X1 hX1 hL1 hs1 _ hb1
      have hB1 : B ≤ w1.heap.size := by have := hb1.size; omega
      clear hsl
      go_wp2_with (at_builtin; refine wpList_appS rfl _ _ rfl B _ X1 rfl ⟨#[44, 83]⟩ hs1 rfl (by show _ + 2 ≤ _; omega) hB1 ?_)
      intro v2 w2 X2 hX2 hL2 hs2 _ hb2
      have hL2' : X2.length ≤ X1.length + 2 := hL2
      have hB2 : B ≤ w2.heap.size := by have := hb2.size; omega
      have hbA : Below B w w2 := (hb.trans hb1).trans hb2
      clear hs1 hb1 hb2 hL2
      go_wp2_with fail
      refine (padded_b B J 6 (by omega) (by omega) (by omega) (by omega) _ X2 w2 hs2 hB2 (by omega) (HT.out.on hbA)).mono ?_
      rintro e w3 ⟨v3, X3, rfl, hX3, hL3, hs3, hb3⟩
      have hB3 : B ≤ w3.heap.size := by have := hb3.size; omega
      have hbB : Below B w w3 := hbA.trans hb3
      clear hs2 hb3
      go_wp2_with (at_builtin; refine wpList_appB rfl _ _ rfl B v3 X3 rfl 44 44 rfl hs3 rfl (by omega) hB3 ?_)
      intro v4 w4 X4 hX4 hL4 hs4 hb4
      have hB4 : B ≤ w4.heap.size := by have := hb4.size; omega
      have hbC : Below B w w4 := hbB.trans hb4
      clear hs3 hb4
      go_wp2_with fail
      refine (appInt_b B _ (by omega) (by omega) _ X4 w4 hs4 hB4 (by omega) (HT.out.on hbC)).mono ?_
      rintro e w5 ⟨v5, X5, rfl, hX5, hL5, hs5, hb5⟩
      have hB5 : B ≤ w5.heap.size := by have := hb5.size; omega
      have hbD : Below B w w5 := hbC.trans hb5
      clear hs4 hb5
      go_wp2_with (at_builtin; refine wpList_appB rfl _ _ rfl B v5 X5 rfl 44 44 rfl hs5 rfl (by omega) hB5 ?_)
      intro v6 w6 X6 hX6 hL6 hs6 hb6
      have hB6 : B ≤ w6.heap.size := by have := hb6.size; omega
      have hbE : Below B w w6 := hbD.trans hb6
      clear hs5 hb6
      go_wp2_with fail
      refine (appInt_b B _ (by omega) (by omega) _ X6 w6 hs6 hB6 (by omega) (HT.out.on hbE)).mono ?_
      rintro e w7 ⟨v7, X7, rfl, hX7, hL7, hs7, hb7⟩
      have hB7 : B ≤ w7.heap.size := by have := hb7.size; omega
      have hbF : Below B w w7 := hbE.trans hb7
      clear hs6 hb7
      go_wp2_with (at_builtin; refine wpList_appB rfl _ _ rfl B v7 X7 rfl 46 46 rfl hs7 rfl (by omega) hB7 ?_)
      intro v8 w8 X8 hX8 hL8 hs8 hb8
      have hB8 : B ≤ w8.heap.size := by have := hb8.size; omega
      have hbG : Below B w w8 := hbF.trans hb8
      clear hs7 hb8
      go_wp2_with fail
      refine (padded_b B _ 3 (by omega) (by omega) (by omega) (by omega) _ X8 w8 hs8.sl hB8 (by omega) (HT.out.on hbG)).mono ?_
      rintro e w9 ⟨v9, X9, rfl, hX9, hL9, hs9, hb9⟩
      have hB9 : B ≤ w9.heap.size := by have := hb9.size; omega
      have hbH : Below B w w9 := hbG.trans hb9
      clear hs8 hb9
      go_wp2_with (at_builtin; refine wpList_appB rfl _ _ rfl B v9 X9 rfl 10 10 rfl hs9 rfl (by omega) hB9 ?_)
      intro v10 w10 X10 hX10 hL10 hs10 hb10
      have hbI : Below B w w10 := hbH.trans hb10
      clear hs9 hb10
      have hfin : X10 = l ++ lines code.data.toList i s (k + 1) := by
        have ep : (I * 7919 + J * 104729 + S) % 100000 = ((price i s (k + 1) : Nat) : Int) := by
          rw [HI.out, HS.out, hJ.out]; exact price_cast i s (k + 1)
        have ep2 : (I * 7919 + J * 104729 + S) % 1000 = ((price i s (k + 1) % 1000 : Nat) : Int) := by omega
        rw [hX10.out, hX9.out, hX8.out, hX7.out, hX6.out, hX5.out, hX4.out, hX3.out, hX2.out, hX1.out, hX.out, lines_succ, line, ep, ep2]
        rw [show J = ((k + 1 : Nat) : Int) from hJ.out]
        rw [show (100 * ((k + 1 : Nat) : Int)) = ((100 * (k + 1) : Nat) : Int) by omega]
        rw [show 1 + ((price i s (k + 1) : Nat) : Int) / 1000 = ((1 + price i s (k + 1) / 1000 : Nat) : Int) by omega]
        simp only [List.append_assoc, List.cons_append, List.nil_append]
      have HF := Lib.hid hfin
      clear hfin
      go_wp2_with fail
      go_roundw
      case rel =>
        refine ⟨k + 1, J + 1, X10, Lib.hid (by have := hJ.out; omega), by omega, by omega, by go_num, HF, ?_, hs10.sl, hbI⟩
        rw [HF.out, List.length_append]
        have h1 := lines_len code.data.toList i s (k + 1) (by have := hJ.out; omega)
        have h2 : code.data.toList.length = code.size := rfl
        rw [h2] at h1
        omega
      case measure => simp [intOf]; omega
    · go_wp2_with fail
      go_ret
      have h200 : k = 200 := by have := hJ.out; omega
      refine ⟨_, rfl, ?_, hb⟩
      rw [← h200, ← hX.out]
      exact hsl

end Go.Proofs.Qxb6605458aDoor
