import Derived.Test.Qxb6605469aZZ
namespace Go.Proofs.Qxb6605469a
open Go.RowKit

theorem Cl.lt {w : World} {ao : Option Addr} {n : Nat} {l : List UInt8} (h : Cl w ao n l) : ∀ b off, ao = some ⟨b, off, none⟩ → b < w.heap.size := by
  intro b off hb
  obtain ⟨_, h2 | ⟨g, h2, h3⟩⟩ := h
  · rw [h2.1] at hb; cases hb
  · rw [h2] at hb; cases hb
    exact (Array.getElem?_eq_some_iff.1 h3).1

theorem Whole.mono {m : List UInt8} {p k : Nat} (h : Whole m p k) {j : Nat} (hj : j ≤ k) : Whole m p j := fun i hi => h i (by omega)

theorem posAt_mono (m : List UInt8) (p : Nat) {j k : Nat} (h : j ≤ k) : posAt m p j + (k - j) ≤ posAt m p k := by
  induction k with
  | zero => have : j = 0 := by omega
            subst this; simp
  | succ k ih =>
    by_cases hj : j = k + 1
    · subst hj; simp
    · have := ih (by omega)
      simp only [posAt]
      omega

theorem labelsTo_get (m : List UInt8) (p K k : Nat) (h : k < K) : ((labelsTo m p K).map strV)[k]? = some (strV (labelAt m p k)) := by
  simp [labelsTo, h]

/-- ZZReaderName, as the laws use it. -/
theorem zzname2 (ao : Option Addr) (n c : Nat) (m : List UInt8) (p : Nat) (w : World) (hm : m.length = n) (hn : (n : Int) ≤ 1048576) (hnc : n ≤ c) (hrow : Row8 w ao m) (hlt : ∀ b off, ao = some ⟨b, off, none⟩ → b < w.heap.size) :
    Calls Try.prog 15 #[.slice ao n c, .int .i64 (p : Int)] w fun e w' => Below w.heap.size w w' ∧ ∃ K S : Nat, Hid (S = posAt m p K) ∧
      ((Hid (NameOk m p K) ∧ ∃ a cp, e = .returned (.tuple #[.slice a K cp, .bool true, .int .i64 ((S : Int) + 1)]) ∧ Hid (∀ k, k < K → ∃ g, a = some ⟨g, 0, none⟩ ∧ w'.cell? ⟨g, k, none⟩ = some (strV (labelAt m p k)))) ∨
      (Hid (NameNo m p K) ∧ e = .returned (.tuple #[.slice none 0 0, .bool false, .int .i64 (S : Int)]))) := by
  refine (zzname_any ao n c m p w hm hn hnc hrow hlt).mono ?_
  rintro e w' ⟨hb, K, ⟨hok, v, he, hown⟩ | ⟨hno, he⟩⟩
  · refine ⟨hb, K, posAt m p K, rfl, .inl ⟨hok, ?_⟩⟩
    rcases hown.2 with ⟨h1, h2⟩ | ⟨g, cap, cur, hv, _⟩
    · subst h2
      exact ⟨none, 0, by rw [he, h1]; rfl, fun k hk => by omega⟩
    · refine ⟨some ⟨g, 0, none⟩, cap, by rw [he, hv]; rfl, fun k hk => ⟨g, rfl, ?_⟩⟩
      have := hown.cells (g := g) (by rw [hv]; rfl) k _ (labelsTo_get m p K k hk)
      rw [Addr.add_lit, Nat.zero_add] at this
      exact this
  · exact ⟨hb, K, posAt m p K, rfl, .inr ⟨hno, he⟩⟩

/-- 'm[lo:hi]', its bounds as the law writes them. -/
theorem slice_at (bk off n c P B : Nat) (w : World) (hc : P + 1 + B ≤ c) (hB : 1 ≤ B) :
    (Instr.slice 23 (.slice (some ⟨bk, off, none⟩) n c) (some (.int .i64 ((P : Int) + 1))) (some (.int .i64 ((P : Int) + 1 + (B : Int)))) none).run Try.prog w = .ok (.slice (some ⟨bk, off + (P + 1), none⟩) B (c - (P + 1))) w := by
  rw [run_slice_lh (P := Try.prog) w 23 (some ⟨bk, off, none⟩) n c elem23 .i64 .i64 _ _ (by omega) (by omega) (by omega)]
  rw [size23]
  have e1 : ((P : Int) + 1).toNat = P + 1 := by omega
  have e2 : ((P : Int) + 1 + (B : Int)).toNat = P + 1 + B := by omega
  simp only [Result.andThen, sliced, e1, e2, Nat.mul_one]
  rw [if_neg (by omega)]
  simp only [Option.map_some, Addr.add_lit]
  congr 2
  omega

set_option maxHeartbeats 400000 in
theorem law7_early (ao : Option Addr) (n c : Nat) (x : Int) (w : World) (hn : n ≤ maxLen) (h : 1048576 < n ∨ (n ≤ 1048576 ∧ x < 0)) :
    Calls Try.prog 7 #[.slice ao n c, .int .i64 x] w fun e w' => e = .returned (.bool true) ∧ w' = w := by
  rcases h with h | ⟨h, h2⟩
  · have hd : decide (n ≤ 1048576) = false := by simp; omega
    go_enter Try.func7, Try.ntmps7
    go_wp2_with (go_at_call 22; refine (bytes22_any _ _ _ _ _ hn).mono ?_; rintro e w' ⟨rfl, rfl⟩)
    go_ret
    exact ⟨rfl, rfl⟩
  · have hd : decide (n ≤ 1048576) = true := by simp; omega
    go_enter Try.func7, Try.ntmps7
    go_wp2_with (go_at_call 22; refine (bytes22_any _ _ _ _ _ hn).mono ?_; rintro e w' ⟨rfl, rfl⟩)
    go_ret
    exact ⟨rfl, rfl⟩

set_option maxRecDepth 20000 in
set_option maxHeartbeats 4000000 in
theorem law7_main (ao : Option Addr) (n c : Nat) (m : List UInt8) (p : Nat) (w : World) (harg : ArgRow w ao n m) (hn : n ≤ 1048576) (hp : (p : Int) ≤ 9223372036854775807) :
    Calls Try.prog 7 #[.slice ao n c, .int .i64 (p : Int)] w fun e w' => e = .returned (.bool true) ∧ Below w.heap.size w w' := by
  have hd : decide (n ≤ 1048576) = true := by simp; omega
  have hm : n ≤ maxLen := by unfold maxLen; omega
  have HA := Lib.hid harg
  clear harg
  go_enter Try.func7, Try.ntmps7
  go_wp2_with (go_at_call 22; refine (bytes22_any _ _ _ _ _ hm).mono ?_; rintro e w0 ⟨rfl, rfl⟩)
  refine (clone_any ao n c m w0 HA.out hn).mono ?_
  rintro e w1 ⟨ao1, rfl, hc1, hb1⟩
  have hlm : m.length = n := hc1.1
  have HN := Lib.hid (zzname2 ao1 n n m p w1 hlm (by omega) (Nat.le_refl _) (hc1.row hm) hc1.lt)
  have HC := Lib.hid hc1
  have HL := Lib.hid hlm
  have hnI : (n : Int) ≤ 1048576 := by omega
  clear hc1 hlm hd hn
  go_wp2_with fail
  refine HN.out.mono ?_
  rintro e w2 ⟨hb2, K, S, hS, ⟨hok, a, cp, rfl, hcells⟩ | ⟨hno, rfl⟩⟩
  · have hrow : Row8 w2 ao1 m := (HC.out.below hb2).row hm
    have hB : Below w0.heap.size w0 w2 := hb1.trans (hb2.mono hb1.size)
    obtain ⟨hwh, hSn, hS0, hSp⟩ := hok.out
    rw [← hS.out] at hSn hS0 hSp
    rw [HL.out] at hSn
    have hpS : (p : Int) ≤ (S : Int) := by
      have h9 := posAt_ge m p K
      rw [← hS.out] at h9
      omega
    have hKb : (K : Int) ≤ 1048576 := by
      have h9 := posAt_ge m p K
      rw [← hS.out] at h9
      omega
    have hSp' : (S : Int) - (p : Int) ≤ 254 := by omega
    have hSn' : (S : Int) < (n : Int) := by omega
    have HW := Lib.hid hwh
    have HS0 := Lib.hid hS0
    have hst1 : decide ((S : Int) < (p : Int)) = false := by simp; omega
    have hst2 : decide (S < p) = false := by simp; omega
    have HR := Lib.hid hrow
    clear hrow hb1 hb2 hwh hS0 hSn hSp
    go_wp2_with fail
    go_loopw [9, 10] (fun a b wr => ∃ k P q : Nat, k ≤ K ∧ b = .int .i64 k ∧ a = .int .i64 P ∧ Hid (P = posAt m p k) ∧ Hid (wr = w2.drewN q)) (fun a _ _ => S - (intOf a).toNat)
    case atStart => exact ⟨0, p, 0, Nat.zero_le _, rfl, rfl, rfl, rfl⟩
    case round =>
      obtain ⟨k, P, q, hk, rfl, rfl, hP, hwr⟩ := hrel
      by_cases hkK : k < K
      · obtain ⟨h1, h2, h3, h4, h5⟩ := HW.out k hkK
        have hmono := posAt_mono m p (j := k + 1) (k := K) (by omega)
        rw [← hP.out] at h1 h2 h3 h5
        rw [HL.out] at h1 h4
        have hnx : posAt m p (k + 1) = P + 1 + (byteAt m P).toNat := by show posAt m p k + 1 + (byteAt m (posAt m p k)).toNat = _; rw [← hP.out]
        obtain ⟨B, hB'⟩ : ∃ B : Nat, (B : Int) = byteAt m P := ⟨(byteAt m P).toNat, by omega⟩
        rcases HR.out with h0 | ⟨bk, off, hao, hcell⟩
        · have := HL.out; rw [h0] at this; simp at this; omega
        subst hao
        have cb : wr.cell? ⟨bk, off + P, none⟩ = some (.int .u8 (B : Int)) := by rw [hwr.out, hB']; exact hcell P (by have := HL.out; omega)
        have k1 : (1 : Int) ≤ (B : Int) := by omega
        have k2 : (B : Int) ≤ 63 := by omega
        have k3 : (P : Int) < (n : Int) := by omega
        have k4 : (P : Int) + 1 + (B : Int) ≤ (n : Int) := by omega
        have k5 : (P : Int) - (p : Int) ≤ 254 := by omega
        have k6 : (P : Int) + 1 + (B : Int) ≤ (S : Int) := by have := hS.out; omega
        have k7 : (p : Int) ≤ (P : Int) := by
          have h9 := posAt_ge m p k
          rw [← hP.out] at h9
          omega
        have HNX : Hid (posAt m p (k + 1) = P + 1 + B) := by show posAt m p (k + 1) = P + 1 + B; rw [hnx]; omega
        have k8 : (k : Int) < (K : Int) := by omega
        have k9 : decide ((K : Int) ≤ (k : Int)) = false := by simp; omega
        obtain ⟨g, ha, hcl⟩ := hcells.out k hkK
        subst ha
        have cl : wr.cell? ⟨g, k, none⟩ = some (strV (labelAt m p k)) := by rw [hwr.out]; exact hcl
        have hsl : ∀ w' : World, (Instr.slice 23 (.slice (some ⟨bk, off, none⟩) n n) (some (.int .i64 ((P : Int) + 1))) (some (.int .i64 ((P : Int) + 1 + (B : Int)))) none).run Try.prog w' = .ok (.slice (some ⟨bk, off + (P + 1), none⟩) B (n - (P + 1))) w' := fun w' => slice_at bk off n n P B w' (by omega) (by omega)
        have HSM : Hid (∀ W : World, (∀ j, j < m.length → W.cell? ⟨bk, off + j, none⟩ = some (.int .u8 (byteAt m j))) → Calls Try.prog 23 #[strV (labelAt m p k), .slice (some ⟨bk, off + (P + 1), none⟩) B (n - (P + 1))] W fun e w' => e = .returned (.bool true) ∧ ∃ k, w' = W.drewN k) := fun W hW => by
          have hlen : ((m.drop (P + 1)).take B).length = B := by have := HL.out; simp; omega
          have hlab : labelAt m p k = ((m.drop (P + 1)).take B).map low := by
            unfold labelAt
            rw [← hP.out, ← hB', Int.toNat_natCast]
          refine sameLowerBytes_any ⟨(labelAt m p k).toArray⟩ (some ⟨bk, off + (P + 1), none⟩) B _ ((m.drop (P + 1)).take B) W (by omega) hlen ?_ (.inr ⟨bk, off + (P + 1), rfl, fun j hj => ?_⟩) ?_
          · show (labelAt m p k).toArray.size = B
            rw [hlab]; simp; have := HL.out; omega
          · rw [hlen] at hj
            rw [byteAt_take _ _ _ hj, byteAt_drop, Nat.add_assoc]
            exact hW (P + 1 + j) (by have := HL.out; omega)
          · intro j hj
            show byteAt (labelAt m p k) j = _
            rw [hlab, byteAt_low _ _ (by omega)]
        have hw1 : IntKind.i64.wrap ((P : Int) + 1) = (P : Int) + 1 := by rw [IntKind.wrap_i64]; omega
        have hw2 : IntKind.i64.wrap ((P : Int) + 1 + (B : Int)) = (P : Int) + 1 + (B : Int) := by rw [IntKind.wrap_i64]; omega
        have HCE : Hid (∀ j, j < m.length → wr.cell? ⟨bk, off + j, none⟩ = some (.int .u8 (byteAt m j))) := fun j hj => by rw [hwr.out]; exact hcell j hj
        clear h1 h2 h3 h4 h5 hmono hnx hcell hB' hcl
        go_wp2_with fail
        go_quiet ((go_at_call 23; exact Calls.quiet_of (HSM.out _ HCE.out)))
        go_wp2_with fail
        go_roundw
        case rel =>
          exact ⟨k + 1, P + 1 + B, q + nq, by omega, by go_num, by go_num, HNX.out.symm, by show _ = _; rw [hwr.out, World.drewN_drewN]⟩
        case measure => simp [intOf]; omega
      · have hkK' : k = K := by omega
        have hPS : P = S := by rw [hP.out, hS.out, hkK']
        subst hPS
        subst hkK'
        have hne : ((P : Int) != (P : Int)) = false := by simp
        rcases HR.out with h0 | ⟨bk, off, hao, hcell⟩
        · have := HL.out; rw [h0] at this; simp at this; omega
        subst hao
        have cb : wr.cell? ⟨bk, off + P, none⟩ = some (.int .u8 0) := by rw [hwr.out, ← HS0.out]; exact hcell P (by have := HL.out; omega)
        have hB3 : Below w0.heap.size w0 wr := by rw [hwr.out]; exact hB.trans ⟨rfl, rfl, rfl, Nat.le_refl _, fun _ _ => rfl⟩
        clear hcell
        go_wp2_with fail
        go_ret
        exact ⟨by simp, hB3⟩
  · have hrow : Row8 w2 ao1 m := (HC.out.below hb2).row hm
    have hB : Below w0.heap.size w0 w2 := hb1.trans (hb2.mono hb1.size)
    have hpS : (p : Int) ≤ (S : Int) := by have := posAt_ge m p K; have := hS.out; omega
    have hSb : (S : Int) ≤ 9223372036854775807 := by
      have h1 := hno.out.1
      by_cases hK : K = 0
      · subst hK; have : S = p := hS.out; omega
      · have := h1.le (by omega); have := hS.out; have := HL.out; omega
    have HR := Lib.hid hrow
    clear hrow hb1 hb2
    go_wp2_with fail
    go_loop [9, 10] (fun a b => ∃ k P : Nat, k ≤ K ∧ b = .int .i64 k ∧ a = .int .i64 P ∧ Hid (P = posAt m p k)) (fun a _ => S - (intOf a).toNat)
    case atStart => exact ⟨0, p, Nat.zero_le _, rfl, rfl, rfl⟩
    case round =>
      obtain ⟨k, P, hk, rfl, rfl, hP⟩ := hrel
      by_cases hkK : k < K
      · obtain ⟨h1, h2, h3, h4, h5⟩ := hno.out.1 k hkK
        have hmono := posAt_mono m p (j := k + 1) (k := K) (by omega)
        rw [← hP.out] at h1 h2 h3 h5
        rw [HL.out] at h1 h4
        have hnx : posAt m p (k + 1) = P + 1 + (byteAt m P).toNat := by show posAt m p k + 1 + (byteAt m (posAt m p k)).toNat = _; rw [← hP.out]
        obtain ⟨B, hB'⟩ : ∃ B : Nat, (B : Int) = byteAt m P := ⟨(byteAt m P).toNat, by omega⟩
        rcases HR.out with h0 | ⟨bk, off, hao, hcell⟩
        · have := HL.out; rw [h0] at this; simp at this; omega
        subst hao
        have cb : w2.cell? ⟨bk, off + P, none⟩ = some (.int .u8 (B : Int)) := by rw [hB']; exact hcell P (by have := HL.out; omega)
        have k1 : (1 : Int) ≤ (B : Int) := by omega
        have k2 : (B : Int) ≤ 63 := by omega
        have k3 : (P : Int) < (n : Int) := by omega
        have k4 : (P : Int) + 1 + (B : Int) ≤ (n : Int) := by omega
        have k5 : (P : Int) - (p : Int) ≤ 254 := by omega
        have k6 : (P : Int) + 1 + (B : Int) ≤ (S : Int) := by have := hS.out; omega
        have k7 : (p : Int) ≤ (P : Int) := by have := posAt_ge m p k; have := hP.out; omega
        have HNX : Hid (posAt m p (k + 1) = P + 1 + B) := by show posAt m p (k + 1) = P + 1 + B; rw [hnx]; omega
        have hkb : (k : Int) ≤ 1048576 := by
          have h9 := posAt_ge m p k
          rw [← hP.out] at h9
          omega
        clear h1 h2 h3 h4 h5 hmono hnx hcell hB'
        go_wp2_with fail
        go_round
        case rel =>
          exact ⟨_, .int .i64 ((P + 1 + B : Nat) : Int), .int .i64 ((k + 1 : Nat) : Int), ⟨k + 1, by omega, rfl, P + 1 + B, rfl, HNX.out.symm⟩, rfl, by go_num, by go_num⟩
        case measure => simp [intOf]; omega
      · have hkK' : k = K := by omega
        have hPS : P = S := by rw [hP.out, hS.out, hkK']
        subst hPS
        have hno' := hno.out.2
        rw [← hS.out, HL.out] at hno'
        have hne : ((P : Int) != (P : Int)) = false := by simp
        by_cases e1 : (254 : Int) < (P : Int) - (p : Int)
        · go_wp2_with fail
          go_ret
          exact ⟨rfl, hB⟩
        · by_cases e2 : (n : Int) ≤ (P : Int)
          · go_wp2_with fail
            go_ret
            exact ⟨rfl, hB⟩
          · rcases HR.out with h0 | ⟨bk, off, hao, hcell⟩
            · have := HL.out; rw [h0] at this; simp at this; omega
            subst hao
            have hbd := byteAt_bd m P
            obtain ⟨B, hB'⟩ : ∃ B : Nat, (B : Int) = byteAt m P := ⟨(byteAt m P).toNat, by omega⟩
            have cb : w2.cell? ⟨bk, off + P, none⟩ = some (.int .u8 (B : Int)) := by rw [hB']; exact hcell P (by have := HL.out; omega)
            rw [← hB'] at hno' hbd
            have k0 : (1 : Int) ≤ (B : Int) := by omega
            have k1 : (B : Int) ≤ 255 := by omega
            have k2 : ((B : Int) == 0) = false := by simp; omega
            have k3 : (P : Int) < (n : Int) := by omega
            by_cases e3 : (63 : Int) < (B : Int)
            · clear hno' hbd hcell hB'
              go_wp2_with fail
              go_ret
              exact ⟨rfl, hB⟩
            · have k4 : (n : Int) - (P : Int) - 1 < (B : Int) := by omega
              clear hno' hbd hcell hB'
              go_wp2_with fail
              go_ret
              exact ⟨by simp, hB⟩

end Go.Proofs.Qxb6605469a
