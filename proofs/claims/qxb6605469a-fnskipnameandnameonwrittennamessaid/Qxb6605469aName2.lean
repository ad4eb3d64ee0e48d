import Derived.Test.Qxb6605469aName
namespace Go.Proofs.Qxb6605469a
open Go.RowKit

def strV (l : List UInt8) : Value := .string ⟨l.toArray⟩

theorem ownsRow_below9 {w w' : World} {B : Nat} {v : Value} {n : Nat} {xs : List Value} (h : w.ownsRow B 9 1 v n xs) (hb : Below w.heap.size w w') : w'.ownsRow B 9 1 v n xs := by
  obtain ⟨hl, h0 | ⟨g, cap, cur, hv, hbg, hg, r⟩⟩ := h
  · exact ⟨hl, .inl h0⟩
  · exact ⟨hl, .inr ⟨g, cap, cur, hv, hbg, by rw [hb.block g (Array.getElem?_eq_some_iff.1 hg).1]; exact hg, r⟩⟩
theorem one_new (w : World) (v : Value) (t : TypeId) : ∀ (j : Nat) (u : Value), [v][j]? = some u → (w.alloc (.cells #[v] t)).cell? ((⟨w.heap.size, 0, none⟩ : Addr).add j) = some u := by
  intro j u hj
  match j, hj with
  | 0, hj => simp at hj; subst hj; simp [Addr.add]
theorem one_cell (s : ByteArray) : ∀ u ∈ [Value.string s], u.oneCell' = true := by intro u hu; simp at hu; subst hu; rfl
theorem size_up {n : Nat} {w : World} (h : n ≤ w.heap.size) (o : Obj) : n ≤ (w.alloc o).heap.size := by simp; omega
theorem elem23 : Try.prog.underlying 23 = some (.slice (Try.prog.elem 23)) := by kernel_rfl
theorem size23 (w : World) : (sizeOf (Try.prog.elem 23)).run Try.prog w = .ok 1 w := by kernel_rfl

theorem slice_lh (bk off n c P B E : Nat) (w : World) (hE : (E : Int) = (P : Int) + (1 + (B : Int))) (hc : E ≤ c ∧ 1 ≤ B) :
    (Instr.slice 23 (.slice (some ⟨bk, off, none⟩) n c) (some (.int .i64 ((E : Int) - (B : Int)))) (some (.int .i64 (E : Int))) none).run Try.prog w = .ok (.slice (some ⟨bk, off + (P + 1), none⟩) B (c - (P + 1))) w := by
  rw [run_slice_lh (P := Try.prog) w 23 (some ⟨bk, off, none⟩) n c elem23 .i64 .i64 _ _ (by omega) (by omega) (by omega)]
  rw [size23]
  have e1 : ((E : Int) - (B : Int)).toNat = P + 1 := by omega
  have e2 : ((E : Int)).toNat = P + 1 + B := by omega
  simp only [Result.andThen, sliced, e1, e2, Nat.mul_one]
  rw [if_neg (by omega)]
  simp only [Option.map_some, Addr.add_lit]
  congr 2
  omega

set_option maxRecDepth 20000 in
set_option maxHeartbeats 2000000 in
theorem name_any (Rb : Nat) (ao : Option Addr) (n c : Nat) (m : List UInt8) (p : Nat) (w : World) (hm : m.length = n) (hn : (n : Int) ≤ 1048576) (hnc : n ≤ c) (hrd : Rd w Rb ao n c p) (hrow : Row8 w ao m) (hne : ∀ b off, ao = some ⟨b, off, none⟩ → b ≠ Rb) :
    Calls Try.prog 25 #[.pointer (some ⟨Rb, 0, none⟩)] w fun e w' => Only Rb w w' ∧ ∃ K,
      (NameOk m p K ∧ ∃ v, e = .returned (.tuple #[v, .bool true]) ∧ Rd w' Rb ao n c ((posAt m p K + 1 : Nat) : Int) ∧ w'.ownsRow w.heap.size 9 1 v K ((labelsTo m p K).map strV)) ∨
      (NameNo m p K ∧ e = .returned (.tuple #[.slice none 0 0, .bool false]) ∧ Rd w' Rb ao n c (posAt m p K : Nat)) := by
  have HM := Lib.hid hm
  have HR := Lib.hid hrow
  have HNE := Lib.hid hne
  have hRb := hrd.lt
  clear hm hrow hne
  go_enter Try.func25, Try.ntmps25
  go_wp2_with fail
  go_loopw [4, 5] (fun v q wr => ∃ k z P : Nat, Hid (P = posAt m p k) ∧ Hid (P = p + z) ∧ (z : Int) ≤ 318 ∧ q = .int .i64 z ∧ Hid (Whole m p k) ∧ Hid (wr.ownsRow w.heap.size 9 1 v k ((labelsTo m p k).map strV)) ∧ Rd wr Rb ao n c P ∧ Only Rb w wr) (fun _ q _ => (400 - intOf q).toNat)
  case atStart => exact ⟨0, 0, p, rfl, rfl, by omega, rfl, fun j hj => by omega, World.ownsRow_nil _ _ _ _, hrd, Only.refl _ _⟩
  case round =>
    obtain ⟨k, z, P, hP, hPz, hz, rfl, hW, hown, hrd1, hon⟩ := hrel
    have c0 := hrd1.c0
    have c1 := hrd1.c1
    have f1 := hrd1.fz 1
    have HRD := Lib.hid hrd1
    clear hrd1 hrd
    by_cases hz255 : (z : Int) < 255
    · by_cases hPn : (P : Int) < (n : Int)
      · have hrw := hon.row HR.out HNE.out
        rcases hrw with h0 | ⟨bk, off, hao, hcell⟩
        · have := HM.out; rw [h0] at this; simp at this; omega
        have hbk : bk ≠ Rb := HNE.out bk off hao
        subst hao
        have cb : wr.cell? ⟨bk, off + P, none⟩ = some (.int .u8 (byteAt m P)) := hcell P (by have := HM.out; omega)
        have HCE := Lib.hid hcell
        obtain ⟨B, hB⟩ : ∃ B : Nat, (B : Int) = byteAt m P := ⟨(byteAt m P).toNat, by have := byteAt_bd m P; omega⟩
        have hB2 : (B : Int) ≤ 255 := by have := byteAt_bd m P; omega
        rw [← hB] at cb
        have HB := Lib.hid hB
        clear hcell hB
        by_cases hB0 : B = 0
        · subst hB0
          go_wp2_with fail
          go_quiet (fail)
          go_wp2_with fail
          go_quiet (fail)
          go_wp2_with fail
          go_ret2
          refine ⟨(hon.drewN _).setCell 1 _, k, .inl ⟨⟨hW.out, ?_, ?_, ?_⟩, _, rfl, ?_, ?_⟩⟩
          · rw [← hP.out, HM.out]; omega
          · rw [← hP.out, ← HB.out]; rfl
          · rw [← hP.out, hPz.out]; omega
          · rw [← hP.out, show ((P + 1 : Nat) : Int) = (P : Int) + 1 by omega]
            exact Rd.set (w := wr.drewN _) HRD.out _
          · exact ownsRow_setCell_below (w := wr.drewN _) hown.out hRb _
        · have hB1 : (1 : Int) ≤ (B : Int) := by omega
          have hbe : ((B : Int) == 0) = false := by simp; omega
          by_cases hB63 : (63 : Int) < (B : Int)
          · go_wp2_with fail
            go_quiet (fail)
            go_wp2_with fail
            go_quiet (fail)
            go_wp2_with fail
            go_ret2
            refine ⟨hon.drewN _, k, .inr ⟨⟨hW.out, ?_⟩, rfl, ?_⟩⟩
            · right; right; left; rw [← hP.out, ← HB.out]; exact hB63
            · rw [← hP.out]; exact HRD.out
          · have hB63' : (B : Int) ≤ 63 := by omega
            by_cases hsk : (n : Int) - (P : Int) < 1 + (B : Int)
            · go_wp2_with fail
              go_quiet (fail)
              go_wp2_with fail
              go_quiet (fail)
              go_wp2_with fail
              refine (skip_no Rb _ n c P _ _ hn (by omega) (by omega) (by exact HRD.out) hsk).mono ?_
              rintro e w5 ⟨rfl, q5, rfl⟩
              go_wp2_with fail
              go_ret2
              refine ⟨hon.drewN _, k, .inr ⟨⟨hW.out, ?_⟩, rfl, ?_⟩⟩
              · right; right; right; rw [← hP.out, ← HB.out, HM.out]; omega
              · rw [← hP.out]; exact HRD.out
            · go_wp2_with fail
              go_quiet (fail)
              go_wp2_with fail
              go_quiet (fail)
              go_wp2_with fail
              refine (skip_yes Rb _ n c P _ _ hn (by omega) (by omega) (by exact HRD.out) (by omega)).mono ?_
              rintro e w5 ⟨rfl, hrd5, hon5⟩
              have d0 := hrd5.c0
              have d1 := hrd5.c1
              have HRD5 := Lib.hid hrd5
              have hon5' : Only Rb w w5 := (hon.drewN _).trans hon5
              clear hrd5 c0 c1 f1 cb
              go_wp2_with fail
              obtain ⟨E, hE⟩ : ∃ E : Nat, (E : Int) = (P : Int) + (1 + (B : Int)) := ⟨P + (1 + B), by omega⟩
              rw [← hE] at d1
              have hsl : ∀ w' : World, (Instr.slice 23 (.slice (some ⟨bk, off, none⟩) n c) (some (.int .i64 ((E : Int) - (B : Int)))) (some (.int .i64 (E : Int))) none).run Try.prog w' = .ok (.slice (some ⟨bk, off + (P + 1), none⟩) B (c - (P + 1))) w' := fun w' => slice_lh bk off n c P B E w' hE (by omega)
              have hEB : (B : Int) ≤ (E : Int) := by omega
              have hEn : (E : Int) ≤ (n : Int) := by omega
              have hwr : IntKind.i64.wrap ((E : Int) - (B : Int)) = (E : Int) - (B : Int) := by rw [IntKind.wrap_i64]; omega
              have HE := Lib.hid hE
              clear hE
              have hbkw : bk < w.heap.size := by
                rcases HR.out with h0 | ⟨b2, o2, h2, h3⟩
                · have := HM.out; rw [h0] at this; simp at this; omega
                · cases h2
                  have := World.block_lt_of_cell? w _ (h3 0 (by have := HM.out; omega))
                  exact this
              obtain ⟨sb, hsb⟩ : ∃ sb : ByteArray, sb = ⟨((m.drop (P + 1)).take B).toArray⟩ := ⟨_, rfl⟩
              have HK : Hid (∀ W' : World, Below w.heap.size w5 W' → W'.cell? ⟨Rb, 0, none⟩ = some (.slice (some ⟨bk, off, none⟩) n c) ∧ W'.cell? ⟨Rb, 1, none⟩ = some (.int .i64 ↑E) ∧
                  (convert 23 9 (.slice (some ⟨bk, off + (P + 1), none⟩) B (c - (P + 1)))).run Try.prog W' = .ok (.string sb) W') := fun W' hb => by
                refine ⟨(hb.cell hRb).trans d0, (hb.cell hRb).trans d1, ?_⟩
                rw [hsb]
                have hl : ((m.drop (P + 1)).take B).length = B := by have := HM.out; have := HE.out; simp; omega
                have hcv := run_convert_bytes_back (P := Try.prog) W' 23 9 5 ⟨bk, off + (P + 1), none⟩ (c - (P + 1)) ((m.drop (P + 1)).take B) Try.underlying23 Try.underlying5 Try.underlying9 (fun t ht => by
                  have ht' : t < B := by omega
                  rw [Addr.add_lit, hb.cell hbkw]
                  have hc5 : w5.cell? ⟨bk, off + (P + 1 + t), none⟩ = some (.int .u8 (byteAt m (P + 1 + t))) := hon5.cell (HCE.out (P + 1 + t) (by have := HM.out; have := HE.out; omega)) (by intro e; exact hbk (Option.some.inj e))
                  rw [Nat.add_assoc, hc5]
                  have hbt : byteAt ((m.drop (P + 1)).take B) t = byteAt m (P + 1 + t) := by rw [byteAt_take _ _ _ ht', byteAt_drop]
                  rw [← hbt, byteAt, List.getD_eq_getElem?_getD, List.getElem?_eq_getElem ht]
                  rfl)
                rw [hl] at hcv
                exact hcv
              have hsz : (sb.size : Int) ≤ 1048576 := by
                have : sb.size ≤ B := by rw [hsb]; show ((m.drop (P + 1)).take B).toArray.size ≤ B; simp; omega
                omega
              have HSB := Lib.hid hsb
              have hk63 : (k : Int) ≤ 400 := by have := posAt_ge m p k; have := hP.out; have := hPz.out; omega
              clear hsb hbkw d0 d1
              obtain ⟨i0, hi, hz0, hz1, hz2⟩ := info_parts infoStr
              have hown5 : Hid (w5.ownsRow w.heap.size 9 1 u4 k ((labelsTo m p k).map strV)) := World.ownsRow.kept (w := wr.drewN _) hown.out hon5 (by
                cases hv : u4.ownBlock with
                | none => exact .inl rfl
                | some g => right; intro e; have := (hown.out.lt g hv).1; cases e; omega)
              have hs5 : w.heap.size ≤ w5.heap.size := hon5'.size
              have hkm : k + 1 ≤ maxLen := by unfold maxLen; omega
              have hkb : (k + 1) * 16 ≤ 140737488355328 := by omega
              go_region_held3 (fun w' => w'.cell? ⟨Rb, 0, none⟩ = some (.slice (some ⟨bk, off, none⟩) n c) ∧ w'.cell? ⟨Rb, 1, none⟩ = some (.int .i64 ↑E) ∧ (convert 23 9 (.slice (some ⟨bk, off + (P + 1), none⟩) B (c - (P + 1)))).run Try.prog w' = .ok (.string sb) w') (first | exact HK.out _ ((Below.refl _ _).drew) | exact HK.out _ hb6 | exact HK.out _ hb6a | exact HK.out _ hb7 | fail) (first | (go_at_call 31; refine (lower_any sb _ hsz).mono ?_; rintro e w6 ⟨rfl, hb6'⟩; have hb6 : Below w.heap.size w5 w6 := ((Below.refl _ _).drew).trans (hb6'.mono hs5); have hs6 : w.heap.size ≤ w6.heap.size := Nat.le_trans hs5 hb6.size; have hb6a := hb6.alloc hs6 (.cells #[.string (lowS sb)] 9); have hs6a := size_up hs6 (.cells #[.string (lowS sb)] 9); have hown6 := (ownsRow_below9 (w := w5.drew) hown5.out hb6').alloc (.cells #[.string (lowS sb)] 9)) | (refine step_append_lies _ rfl (.tmp 50) (.tmp 68) 24 rfl w.heap.size 9 i0 (.string ⟨#[]⟩) 1 16 Try.underlying24 hi hz0 hz1 hz2 rfl Nat.one_pos u4 k ((labelsTo m p k).map strV) rfl hown6 ⟨w6.heap.size, 0, none⟩ 1 1 [.string (lowS sb)] rfl rfl (one_new _ _ _) (one_cell _) Nat.one_pos hkm hkb hs6a _ rfl ?_; intro g cap w7 hown7 hgrow7 hat hlt; have hb7 : Below w.heap.size w5 w7 := hb6a.grown hgrow7 hs6a (fun q hq => (hown5.out.lt q hq).1)) | fail)
              have hpos1 : E = posAt m p (k + 1) := by
                have h1 := HE.out
                have h2 := HB.out
                show E = posAt m p k + 1 + (byteAt m (posAt m p k)).toNat
                rw [← hP.out, ← h2]
                omega
              have hW1 : Whole m p (k + 1) := by
                intro j hj
                by_cases hjk : j = k
                · rw [hjk, ← hP.out, ← HB.out, ← hpos1, HM.out]
                  have := hPz.out
                  exact ⟨by omega, by omega, by omega, by omega, by omega⟩
                · exact hW.out j (by omega)
              have hlab : (labelsTo m p k).map strV ++ [.string (lowS sb)] = (labelsTo m p (k + 1)).map strV := by
                rw [labelsTo_succ, List.map_append]
                have : [Value.string (lowS sb)] = [labelAt m p k].map strV := by
                  have h2 := HB.out
                  rw [HSB.out]
                  simp only [List.map_cons, List.map_nil, strV, labelAt, lowS, ← hP.out, ← h2, Int.toNat_natCast]
                rw [this]
              rw [hlab] at hown7
              have HO7 := Lib.hid hown7
              have hrd7 : Rd w7 Rb (some ⟨bk, off, none⟩) n c (E : Int) := by
                have h1 := HRD5.out
                rw [← HE.out] at h1
                unfold Rd at h1 ⊢
                rw [hb7.block Rb hRb]
                exact h1
              have hon7 : Only Rb w w7 := ⟨hb7.os.trans hon5'.os, hb7.tape.trans hon5'.tape, hb7.output.trans hon5'.output, Nat.le_trans hon5'.size hb7.size, fun i hi hne => (hb7.block i hi).trans (hon5'.block i hi hne)⟩
              have HP1 := Lib.hid hpos1
              have HW1 := Lib.hid hW1
              clear hown7 hlab hown6 hgrow7 hat hb6 hb6' hb7 hpos1 hW1 hsl hwr HK hon5 hon5'
              go_wp2_with fail
              go_roundw
              case rel => exact ⟨k + 1, z + (1 + B), E, HP1, Lib.hid (by have := HE.out; have := hPz.out; omega), by omega, by go_num, HW1, HO7, hrd7, hon7⟩
              case measure => simp [intOf]; omega
      · have hge : (n : Int) ≤ (P : Int) := by omega
        go_wp2_with fail
        go_quiet (fail)
        go_wp2_with fail
        go_ret2
        refine ⟨hon.drewN _, k, .inr ⟨⟨hW.out, ?_⟩, rfl, ?_⟩⟩
        · right; left; rw [HM.out, ← hP.out]; omega
        · rw [← hP.out]; exact HRD.out
    · go_wp2_with fail
      go_ret2
      refine ⟨hon, k, .inr ⟨⟨hW.out, ?_⟩, rfl, ?_⟩⟩
      · left; rw [← hP.out, hPz.out]; omega
      · rw [← hP.out]; exact HRD.out

end Go.Proofs.Qxb6605469a
