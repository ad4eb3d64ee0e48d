import Derived.Test.Qxb6605458aDoorLawB
namespace Go.Proofs.Qxb6605458aDoor
open Go.RowKit

set_option maxRecDepth 100000 in
set_option maxHeartbeats 4000000 in
theorem law4_main (ao : Option Addr) (n c : Nat) (l : List UInt8) (code : ByteArray) (i s : Nat) (I S : Int) (hI : I = (i : Int)) (hS : S = (s : Int)) (w : World) (harg : ArgRow w ao n l) (hn : n + code.size ≤ 1048576) (hc : code.size ≤ 4096) (hi : i ≤ 99999) (hs : s ≤ 1073741824)
    (htab : Tab w.heap.size w) :
    Calls Tryd.prog 4 #[.slice ao n c, .string code, .int .i64 I, .int .i64 S] w fun e w' => e = .returned (.bool true) ∧ Below w.heap.size w w' := by
  have hd : decide (n + code.size ≤ 1048576) = true := by simp; omega
  have hm : n ≤ maxLen := by unfold maxLen; omega
  have hcm : code.size ≤ maxLen := by unfold maxLen; omega
  have hI0 : 0 ≤ I := by omega
  have hI1 : I ≤ 99999 := by omega
  have hS0 : 0 ≤ S := by omega
  have hS1 : S ≤ 1073741824 := by omega
  have HI := Lib.hid hI
  have HS := Lib.hid hS
  have HA := Lib.hid harg
  have HT := Lib.hid htab
  have Hi := Lib.hid hi
  have Hs := Lib.hid hs
  clear harg htab hI hS hi hs
  go_enter Tryd.func4, Tryd.ntmps4
  go_wp2_with (go_at_call 12; refine (bytes12_any _ _ _ _ _ _ _ hm hcm).mono ?_; rintro e w0 ⟨rfl, rfl⟩)
  refine (clone_any ao n c l w0 HA.out (by omega)).mono ?_
  rintro e w1 ⟨ao1, rfl, hc1, hb1⟩
  go_wp2_with fail
  refine (clone_any ao1 n n l w1 (hc1.arg hm) (by omega)).mono ?_
  rintro e w2 ⟨ao2, rfl, hc2, hb2⟩
  have hln : l.length = n := hc2.1
  have hs1 : SlB w2 w2.heap.size (.slice ao1 n n) l := by
    have := (hc1.below hb2).slc hm
    unfold SlB
    rw [hln]
    exact this
  have hT2 : Tab w2.heap.size w2 := fun w' hb => HT.out w' ((hb1.trans (hb2.mono hb1.size)).trans (hb.mono (by have := hb1.size; have := hb2.size; omega)))
  have hB2 : Below w0.heap.size w0 w2 := hb1.trans (hb2.mono hb1.size)
  have HC2 := Lib.hid hc2
  have hz := zzholdings_any w2.heap.size i s I S HI.out HS.out Hi.out Hs.out code hc _ l w2 hs1 (Nat.le_refl _) (by omega) hT2
  have hll := lines_len code.data.toList i s 200 (by omega)
  have hpos0 := lines_pos code.data.toList i s
  obtain ⟨K, hK⟩ : ∃ K : Nat, K = 200 := ⟨_, rfl⟩
  rw [← hK] at hz hll hpos0
  have hK1 : K ≤ 200 := by omega
  have hK2 : 200 ≤ K := by omega
  clear hK
  obtain ⟨R, hR⟩ : ∃ R, R = l ++ lines code.data.toList i s K := ⟨_, rfl⟩
  rw [← hR] at hz
  have HZ := Lib.hid hz
  have HR := Lib.hid hR
  have HLN := Lib.hid hln
  have HLL := Lib.hid hll
  have HP0 := Lib.hid hpos0
  clear hc1 hc2 hs1 hT2 hb1 hb2 hz hR hln hll hpos0
  go_wp2_with fail
  refine HZ.out.mono ?_
  rintro e w3 ⟨v3, rfl, hsl, hb3⟩
  have hRl : R.length = n + (lines code.data.toList i s K).length := by rw [HR.out, List.length_append, HLN.out]
  have hpos := HP0.out
  obtain ⟨g, cap, hv3, hNc, hcap, hcell⟩ := slb_row hsl (by omega)
  obtain ⟨N, hN⟩ : ∃ N, N = R.length := ⟨_, rfl⟩
  rw [← hN] at hv3 hNc hRl
  rw [hv3]
  have hN2 : (N : Int) ≤ 2000000 := by
    have := HLL.out
    have e : code.data.toList.length = code.size := rfl
    rw [e] at this
    have h3 : K * (code.size + 23) ≤ 200 * (4096 + 23) := Nat.mul_le_mul hK1 (by omega)
    omega
  have hnN : n < N := by omega
  have hrow3 : Row8 w3 (some ⟨g, 0, none⟩) R := .inr ⟨g, 0, rfl, fun j hj => by rw [Nat.zero_add]; exact hcell j hj⟩
  have hrow2 : Row8 w3 ao2 l := (HC2.out.below hb3).row hm
  have hB3 : Below w0.heap.size w0 w3 := hB2.trans (hb3.mono (by have := hB2.size; omega))
  have hpre : ∀ j, j < n → byteAt R j = byteAt l j := fun j hj => by rw [HR.out]; exact byteAt_left _ _ _ (by have := HLN.out; omega)
  have HN := Lib.hid hN
  have HRL := Lib.hid hRl
  have HR3 := Lib.hid hrow3
  have HR2 := Lib.hid hrow2
  have HPR := Lib.hid hpre
  have HCE := Lib.hid hcell
  clear hRl hpos hv3 hN hrow3 hrow2 hpre hcell hsl hb3 HZ hd hm hcm
  unfold maxLen at hcap
  go_wp2_with fail
  refine (prefix_any _ _ N cap n n R l w3 (by omega) HN.out.symm HLN.out HR3.out HR2.out (by omega) HPR.out).mono ?_
  rintro e w4 ⟨rfl, q0, rfl⟩
  go_wp2_with fail
  go_loopw [11, 12, 13] (fun a b d wr => ∃ (k P q : Nat) (J Z : Int), Hid (J = k + 1) ∧ 1 ≤ J ∧ J ≤ 201 ∧ d = .int .i64 J ∧ (P : Int) ≤ 2000000 ∧ a = .int .i64 P ∧ Hid (P = n + (lines code.data.toList i s k).length) ∧ 0 ≤ Z ∧ Z < 100000 ∧ b = .int .i64 Z ∧ Hid (Z = (price i s (k + 1) : Nat)) ∧ wr = w3.drewN q) (fun _ _ d _ => (201 - intOf d).toNat)
  case atStart =>
    have hp1 := price_one i s
    have e := HI.out
    have e' := HS.out
    exact ⟨0, n, q0, 1, _, Lib.hid (by simp), by omega, by omega, rfl, by omega, rfl, Lib.hid (by simp [lines]), by omega, by omega, rfl, Lib.hid (by rw [← hp1]; omega), rfl⟩
  case round =>
    obtain ⟨k, P, q, J, Z, hJ, hJ1, hJ2, rfl, hP2, rfl, hP, hZ0, hZ1, rfl, hZ, rfl⟩ := hrel
    by_cases hlt : J ≤ 200
    · have hsplit := lines_split code.data.toList i s k K (by have := hJ.out; omega)
      obtain ⟨r, hr⟩ := hsplit
      have hseg : Seg R P (line code.data.toList i s (k + 1)) := by
        have h1 := Seg.intro (l ++ lines code.data.toList i s k) (line code.data.toList i s (k + 1)) r
        rw [List.length_append, HLN.out, ← hP.out, List.append_assoc, ← hr, ← HR.out] at h1
        exact h1
      have hla := lineAt (by omega) (by have := hJ.out; omega) hseg
      have hlenN : P + (line code.data.toList i s (k + 1)).length ≤ N := by
        rw [HRL.out, hr, List.length_append, List.length_append, hP.out]
        omega
      rw [hla.len] at hlenN
      rw [show code.data.toList.length = code.size from rfl] at hla hlenN
      obtain ⟨nq, hnq⟩ : ∃ x, x = Lib.nDigits (100 * (k + 1)) := ⟨_, rfl⟩
      obtain ⟨nw, hnw⟩ : ∃ x, x = Lib.nDigits (1 + price i s (k + 1) / 1000) := ⟨_, rfl⟩
      rw [← hnq, ← hnw] at hla hlenN
      have b1 := hla.nq1
      have b2 := hla.nq5
      have b3 := hla.nw1
      have b4 := hla.nw3
      have HLA := Lib.hid hla
      have HRW : Hid (∀ z, Row8 (w3.drewN z) (some ⟨g, 0, none⟩) R) := fun z => row8_drew HR3.out z
      have hNP : Hid (∀ y, y = n + (lines code.data.toList i s (k + 1)).length → y = P + (code.size + 15 + nq + nw)) := fun y hy => by
        have h2 := hla.len
        rw [hy, lines_succ, List.length_append, h2, hP.out]
        omega
      clear hr hseg hla hnq hnw
      go_wp2_with fail
      go_loopw [14] (fun a wr => ∃ t z : Nat, t ≤ code.size ∧ a = .int .i64 t ∧ wr = w3.drewN z) (fun a _ => code.size - (intOf a).toNat)
      case atStart => exact ⟨0, _, Nat.zero_le _, rfl, rfl⟩
      case round =>
        obtain ⟨t, z, ht, rfl, rfl⟩ := hrel
        by_cases htl : t < code.size
        · have ct : w3.cell? ⟨g, P + t, none⟩ = some (.int .u8 (code[t].toNat : Int)) := by
            rw [← byteAt_str code t htl, ← HLA.out.cd t htl]
            exact HCE.out (P + t) (by have := HN.out; omega)
          have i1 : (P : Int) + (t : Int) < (N : Int) := by omega
          have i2 : (t : Int) < (code.size : Int) := by omega
          go_wp2_with fail
          go_quiet (fail)
          go_wp2_with fail
          go_roundw
          case rel => exact ⟨t + 1, _, by omega, by go_num, rfl⟩
          case measure => simp [intOf]; omega
        · go_wp2_with fail
          refine (expect_any _ N cap R (P + code.size) _ 44 _ (by omega) (by omega) HN.out.symm (HRW.out z) (by omega) HLA.out.c1).mono ?_
          rintro e w5 ⟨rfl, rfl⟩
          go_wp2_with fail
          refine (expect_any _ N cap R (P + code.size + 1) _ 83 _ (by omega) (by omega) HN.out.symm (HRW.out z) (by omega) HLA.out.c2).mono ?_
          rintro e w5 ⟨rfl, rfl⟩
          go_wp2_with fail
          refine (fixed_at _ N cap R (P + code.size + 2) 6 _ _ J _ (by omega) (by omega) (by omega) HN.out.symm (HRW.out z) (by omega) (by omega) HLA.out.idd (by rw [HLA.out.id]; have := hJ.out; omega)).mono ?_
          rintro e w5 ⟨rfl, rfl⟩
          go_wp2_with fail
          refine (expect_any _ N cap R (P + code.size + 8) _ 44 _ (by omega) (by omega) HN.out.symm (HRW.out z) (by omega) HLA.out.c3).mono ?_
          rintro e w5 ⟨rfl, rfl⟩
          go_wp2_with fail
          refine (run_at _ N cap R (P + code.size + 9) nq _ (100 * J) _ (by omega) (by omega) HN.out.symm (HRW.out z) (by omega) (by omega) (by omega) HLA.out.qd (by rw [HLA.out.c4]; omega) HLA.out.q0 (by rw [HLA.out.q]; have := hJ.out; omega)).mono ?_
          rintro e w5 ⟨rfl, rfl⟩
          go_wp2_with fail
          refine (expect_any _ N cap R (P + code.size + 9 + nq) _ 44 _ (by omega) (by omega) HN.out.symm (HRW.out z) (by omega) HLA.out.c4).mono ?_
          rintro e w5 ⟨rfl, rfl⟩
          go_wp2_with fail
          obtain ⟨Qv, hQv⟩ : ∃ Qv : Int, Qv = ((1 + price i s (k + 1) / 1000 : Nat) : Int) := ⟨_, rfl⟩
          obtain ⟨Fv, hFv⟩ : ∃ Fv : Int, Fv = ((price i s (k + 1) % 1000 : Nat) : Int) := ⟨_, rfl⟩
          have hZZ := hZ.out
          have q1 : 1 ≤ Qv := by omega
          have q2 : Qv ≤ 100 := by omega
          have f1 : 0 ≤ Fv := by omega
          have f2 : Fv ≤ 999 := by omega
          have hsum : (Qv * 1000 + Fv != 1000 + Z) = false := by simp; omega
          have hwv := HLA.out.w
          have hfv := HLA.out.f
          rw [← hQv] at hwv
          rw [← hFv] at hfv
          have HWV := Lib.hid hwv
          have HFV := Lib.hid hfv
          clear hwv hfv hQv hFv hZZ
          refine (run_at _ N cap R (P + code.size + 10 + nq) nw _ Qv _ (by omega) (by omega) HN.out.symm (HRW.out z) (by omega) (by omega) (by omega) HLA.out.wd (by rw [HLA.out.c5]; omega) HLA.out.w0 HWV.out).mono ?_
          rintro e w5 ⟨rfl, rfl⟩
          go_wp2_with fail
          refine (expect_any _ N cap R (P + code.size + 10 + nq + nw) _ 46 _ (by omega) (by omega) HN.out.symm (HRW.out z) (by omega) HLA.out.c5).mono ?_
          rintro e w5 ⟨rfl, rfl⟩
          go_wp2_with fail
          refine (fixed_at _ N cap R (P + code.size + 11 + nq + nw) 3 _ _ Fv _ (by omega) (by omega) (by omega) HN.out.symm (HRW.out z) (by omega) (by omega) HLA.out.fd HFV.out).mono ?_
          rintro e w5 ⟨rfl, rfl⟩
          go_wp2_with fail
          refine (expect_any _ N cap R (P + code.size + 14 + nq + nw) _ 10 _ (by omega) (by omega) HN.out.symm (HRW.out z) (by omega) HLA.out.c6).mono ?_
          rintro e w5 ⟨rfl, rfl⟩
          go_wp2_with fail
          go_roundw
          case rel =>
            have hst := price_step i s (k + 1)
            have hZZ := hZ.out
            exact ⟨k + 1, P + (code.size + 15 + nq + nw), _, J + 1, (Z + 4729) % 100000, Lib.hid (by have := hJ.out; omega), by omega, by omega, rfl, by omega, by go_num, Lib.hid (hNP.out _ rfl).symm, by omega, by omega, rfl, Lib.hid (by rw [← hst]; omega), rfl⟩
          case measure => simp [intOf]; omega
    · have hkK : k = K := by have := hJ.out; omega
      have hPN : P = N := by rw [hP.out, HRL.out, hkK]
      subst hPN
      go_wp2_with fail
      go_ret
      exact ⟨by simp, hB3.trans ⟨rfl, rfl, rfl, Nat.le_refl _, fun _ _ => rfl⟩⟩

end Go.Proofs.Qxb6605458aDoor
