import Derived.Test.Qxb6605469aZZ
namespace Go.Proofs.Qxb6605469a
open Go.RowKit

theorem and192 : ∀ B : Fin 256, (bits BinOp.and IntKind.i64 (B.val : Int) 192 == 192) = decide (192 ≤ B.val) := by decide +kernel

/-- What skipName does where the labels end. -/
def SkipPt (m : List UInt8) (p K : Nat) : Prop := 192 ≤ byteAt m (posAt m p K) ∧ posAt m p K + 2 ≤ m.length ∧ posAt m p K ≤ p + 254

set_option maxRecDepth 20000 in
set_option maxHeartbeats 2000000 in
theorem skipName_any (Rb : Nat) (ao : Option Addr) (n c : Nat) (m : List UInt8) (p : Nat) (w : World) (hm : m.length = n) (hn : (n : Int) ≤ 1048576) (hrd : Rd w Rb ao n c p) (hrow : Row8 w ao m) (hne : ∀ b off, ao = some ⟨b, off, none⟩ → b ≠ Rb) :
    Calls Try.prog 27 #[.pointer (some ⟨Rb, 0, none⟩)] w fun e w' => Only Rb w w' ∧ ∃ K,
      (NameOk m p K ∧ e = .returned (.bool true) ∧ Rd w' Rb ao n c ((posAt m p K + 1 : Nat) : Int)) ∨
      (NameNo m p K ∧ SkipPt m p K ∧ e = .returned (.bool true) ∧ Rd w' Rb ao n c ((posAt m p K + 2 : Nat) : Int)) ∨
      (NameNo m p K ∧ ¬ SkipPt m p K ∧ e = .returned (.bool false) ∧ Rd w' Rb ao n c (posAt m p K : Nat)) := by
  have HM := Lib.hid hm
  have HR := Lib.hid hrow
  have HNE := Lib.hid hne
  clear hm hrow hne
  go_enter Try.func27, Try.ntmps27
  go_wp2_with fail
  go_loopw [3] (fun q wr => ∃ k z P : Nat, Hid (P = posAt m p k) ∧ Hid (P = p + z) ∧ (z : Int) ≤ 318 ∧ q = .int .i64 z ∧ Hid (Whole m p k) ∧ Rd wr Rb ao n c P ∧ Only Rb w wr) (fun q _ => (400 - intOf q).toNat)
  case atStart => exact ⟨0, 0, p, rfl, rfl, by omega, rfl, fun j hj => by omega, hrd, Only.refl _ _⟩
  case round =>
    obtain ⟨k, z, P, hP, hPz, hz, rfl, hW, hrd1, hon⟩ := hrel
    have c0 := hrd1.c0
    have c1 := hrd1.c1
    have f1 := hrd1.fz 1
    have HRD := Lib.hid hrd1
    clear hrd1 hrd
    by_cases hz255 : (z : Int) < 255
    · by_cases hPn : (P : Int) < (n : Int)
      · have hrw := hon.row HR.out HNE.out
        rcases hrw with h0 | ⟨bk, off, hao, hcell⟩
        · have := HM.out; rw [h0] at this; simp at this; omega
        subst hao
        have cb : wr.cell? ⟨bk, off + P, none⟩ = some (.int .u8 (byteAt m P)) := hcell P (by have := HM.out; omega)
        obtain ⟨B, hB⟩ : ∃ B : Nat, (B : Int) = byteAt m P := ⟨(byteAt m P).toNat, by have := byteAt_bd m P; omega⟩
        have hB2 : (B : Int) ≤ 255 := by have := byteAt_bd m P; omega
        rw [← hB] at cb
        have HB := Lib.hid hB
        clear hcell hB
        by_cases hB0 : B = 0
        · subst hB0
          go_wp2_with fail
          go_quiet (fail)
          go_wp2_with fail
          go_quiet (fail)
          go_wp2_with fail
          go_ret
          refine ⟨(hon.drewN _).setCell 1 _, k, .inl ⟨⟨hW.out, ?_, ?_, ?_⟩, rfl, ?_⟩⟩
          · rw [← hP.out, HM.out]; omega
          · rw [← hP.out, ← HB.out]; rfl
          · rw [← hP.out, hPz.out]; omega
          · rw [← hP.out, show ((P + 1 : Nat) : Int) = (P : Int) + 1 by omega]
            exact Rd.set (w := wr.drewN _) HRD.out _
        have hB1 : (1 : Int) ≤ (B : Int) := by omega
        have hbe : ((B : Int) == 0) = false := by simp; omega
        by_cases hp192 : 192 ≤ B
        · have hand : (bits BinOp.and IntKind.i64 (B : Int) 192 == 192) = true := by
            have := and192 ⟨B, by omega⟩
            simpa [hp192] using this
          have hno : NameNo m p k := ⟨hW.out, by right; right; left; rw [← hP.out, ← HB.out]; omega⟩
          have HNO := Lib.hid hno
          clear hno
          by_cases hsk : (n : Int) - (P : Int) < 2
          · go_wp2_with fail
            go_quiet (fail)
            go_wp2_with fail
            go_quiet (fail)
            go_wp2_with fail
            refine (skip_no Rb _ n c P _ _ hn (by omega) (by omega) (by exact HRD.out) hsk).mono ?_
            rintro e w5 ⟨rfl, q5, rfl⟩
            go_wp2_with fail
            go_ret
            refine ⟨hon.drewN _, k, .inr (.inr ⟨HNO.out, fun hpt => ?_, rfl, ?_⟩)⟩
            · have := hpt.2.1; rw [← hP.out, HM.out] at this; omega
            · rw [← hP.out]; exact HRD.out
          · go_wp2_with fail
            go_quiet (fail)
            go_wp2_with fail
            go_quiet (fail)
            go_wp2_with fail
            refine (skip_yes Rb _ n c P _ _ hn (by omega) (by omega) (by exact HRD.out) (by omega)).mono ?_
            rintro e w5 ⟨rfl, hrd5, hon5⟩
            have HRD5 := Lib.hid hrd5
            clear hrd5
            go_wp2_with fail
            go_ret
            refine ⟨(hon.drewN _).trans hon5, k, .inr (.inl ⟨HNO.out, ⟨?_, ?_, ?_⟩, rfl, ?_⟩)⟩
            · rw [← hP.out, ← HB.out]; omega
            · rw [← hP.out, HM.out]; omega
            · rw [← hP.out, hPz.out]; omega
            · rw [← hP.out, show ((P + 2 : Nat) : Int) = (P : Int) + 2 by omega]
              exact HRD5.out
        have hand : (bits BinOp.and IntKind.i64 (B : Int) 192 == 192) = false := by
          have := and192 ⟨B, by omega⟩
          simpa [hp192] using this
        have hnpt : ¬ SkipPt m p k := fun hpt => by have := hpt.1; rw [← hP.out, ← HB.out] at this; omega
        have HNP := Lib.hid hnpt
        clear hnpt
        by_cases hB63 : (63 : Int) < (B : Int)
        · go_wp2_with fail
          go_quiet (fail)
          go_wp2_with fail
          go_quiet (fail)
          go_wp2_with fail
          go_ret
          refine ⟨hon.drewN _, k, .inr (.inr ⟨⟨hW.out, ?_⟩, HNP.out, rfl, ?_⟩)⟩
          · right; right; left; rw [← hP.out, ← HB.out]; exact hB63
          · rw [← hP.out]; exact HRD.out
        have hB63' : (B : Int) ≤ 63 := by omega
        have hd63 : decide ((63 : Int) < (B : Int)) = false := by simp; omega
        by_cases hsk : (n : Int) - (P : Int) < 1 + (B : Int)
        · go_wp2_with fail
          go_quiet (fail)
          go_wp2_with fail
          go_quiet (fail)
          go_wp2_with fail
          refine (skip_no Rb _ n c P _ _ hn (by omega) (by omega) (by exact HRD.out) hsk).mono ?_
          rintro e w5 ⟨rfl, q5, rfl⟩
          go_wp2_with fail
          go_ret
          refine ⟨hon.drewN _, k, .inr (.inr ⟨⟨hW.out, ?_⟩, HNP.out, rfl, ?_⟩)⟩
          · right; right; right; rw [← hP.out, ← HB.out, HM.out]; omega
          · rw [← hP.out]; exact HRD.out
        · go_wp2_with fail
          go_quiet (fail)
          go_wp2_with fail
          go_quiet (fail)
          go_wp2_with fail
          refine (skip_yes Rb _ n c P _ _ hn (by omega) (by omega) (by exact HRD.out) (by omega)).mono ?_
          rintro e w5 ⟨rfl, hrd5, hon5⟩
          have hon5' : Only Rb w w5 := (hon.drewN _).trans hon5
          obtain ⟨E, hE⟩ : ∃ E : Nat, (E : Int) = (P : Int) + (1 + (B : Int)) := ⟨P + (1 + B), by omega⟩
          rw [← hE] at hrd5
          have hpos1 : E = posAt m p (k + 1) := by
            have h2 := HB.out
            show E = posAt m p k + 1 + (byteAt m (posAt m p k)).toNat
            rw [← hP.out, ← h2]
            omega
          have hW1 : Whole m p (k + 1) := by
            intro j hj
            by_cases hjk : j = k
            · rw [hjk, ← hP.out, ← HB.out, ← hpos1, HM.out]
              have := hPz.out
              exact ⟨by omega, by omega, by omega, by omega, by omega⟩
            · exact hW.out j (by omega)
          have HE := Lib.hid hE
          have HP1 := Lib.hid hpos1
          have HW1 := Lib.hid hW1
          have HRD5 := Lib.hid hrd5
          clear hE hpos1 hW1 hrd5 hon5 c0 c1 f1 cb
          go_wp2_with fail
          go_roundw
          case rel => exact ⟨k + 1, z + (1 + B), E, HP1, Lib.hid (by have := HE.out; have := hPz.out; omega), by omega, by go_num, HW1, HRD5.out, hon5'⟩
          case measure => simp [intOf]; omega
      · have hge : (n : Int) ≤ (P : Int) := by omega
        go_wp2_with fail
        go_quiet (fail)
        go_wp2_with fail
        go_ret
        refine ⟨hon.drewN _, k, .inr (.inr ⟨⟨hW.out, ?_⟩, fun hpt => ?_, rfl, ?_⟩)⟩
        · right; left; rw [HM.out, ← hP.out]; omega
        · have := hpt.2.1; rw [← hP.out, HM.out] at this; omega
        · rw [← hP.out]; exact HRD.out
    · go_wp2_with fail
      go_ret
      refine ⟨hon, k, .inr (.inr ⟨⟨hW.out, ?_⟩, fun hpt => ?_, rfl, ?_⟩)⟩
      · left; rw [← hP.out, hPz.out]; omega
      · have := hpt.2.2; rw [← hP.out, hPz.out] at this; omega
      · rw [← hP.out]; exact HRD.out

end Go.Proofs.Qxb6605469a
