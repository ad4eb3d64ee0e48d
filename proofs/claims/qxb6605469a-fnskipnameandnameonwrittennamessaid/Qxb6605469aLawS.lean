import Derived.Test.Qxb6605469aSkip2
namespace Go.Proofs.Qxb6605469a
open Go.RowKit

set_option maxRecDepth 20000 in
set_option maxHeartbeats 4000000 in
theorem law6_ptr (a0 a1 a2 : Option Addr) (n0 c0 n1 c1 n2 c2 : Nat) (hi lo : UInt8) (pre suf : List UInt8) (ss : List ByteArray) (w : World) (h0 : ArgRow w a0 n0 pre) (h1 : ArgS w a1 n1 ss) (h2 : ArgRow w a2 n2 suf) (m0 : n0 ≤ maxLen) (m1 : n1 ≤ maxLen) (m2 : n2 ≤ maxLen) :
    Calls Try.prog 6 #[.slice a0 n0 c0, .slice a1 n1 c1, .bool true, .int .u8 (hi.toNat : Int), .int .u8 (lo.toNat : Int), .slice a2 n2 c2] w fun e w' => e = .returned (.bool true) ∧ Below w.heap.size w w' := by
  have H0 := Lib.hid h0
  have H1 := Lib.hid h1
  have H2 := Lib.hid h2
  have b0 : (n0 : Int) ≤ 9223372036854775807 := by unfold maxLen at m0; omega
  have b1 : (n1 : Int) ≤ 9223372036854775807 := by unfold maxLen at m1; omega
  have b2 : (n2 : Int) ≤ 9223372036854775807 := by unfold maxLen at m2; omega
  have HB := Lib.hid (bytes20_any a0 a1 a2 n0 c0 n1 c1 n2 c2 true (hi.toNat : Int) (lo.toNat : Int) ss w b0 b1 b2 h1.rows h1.2.2.1)
  clear h0 h1 h2
  go_enter Try.func6, Try.ntmps6
  go_wp2_with fail
  refine HB.out.mono ?_
  rintro e w0 ⟨hab, rfl⟩
  obtain ⟨b, rfl⟩ := hab
  cases b with
  | false =>
    go_wp2_with fail
    go_ret
    exact ⟨rfl, Below.refl _ _⟩
  | true =>
  by_cases g0 : (65536 : Int) < (n0 : Int)
  · go_wp2_with fail
    go_ret
    exact ⟨rfl, Below.refl _ _⟩
  by_cases g2 : (65536 : Int) < (n2 : Int)
  · go_wp2_with fail
    go_ret
    exact ⟨rfl, Below.refl _ _⟩
  by_cases g1 : (4096 : Int) < (n1 : Int)
  · go_wp2_with fail
    go_ret
    exact ⟨rfl, Below.refl _ _⟩
  clear b0 b1 b2
  have k0 : (n0 : Int) ≤ 65536 := by omega
  have k1 : (n1 : Int) ≤ 4096 := by omega
  have k2 : (n2 : Int) ≤ 65536 := by omega
  have d0 : decide ((65536 : Int) < (n0 : Int)) = false := by simp; omega
  have d1 : decide ((4096 : Int) < (n1 : Int)) = false := by simp; omega
  have d2 : decide ((65536 : Int) < (n2 : Int)) = false := by simp; omega
  clear g0 g1 g2
  go_wp2_with fail
  go_loop [13] (fun i => ∃ k : Nat, k ≤ n1 ∧ i = .int .i64 k ∧ Hid (∀ j, j < k → 1 ≤ (strAt ss j).size ∧ (strAt ss j).size ≤ 63)) (fun i => n1 - (intOf i).toNat)
  case atStart => exact ⟨0, Nat.zero_le _, rfl, fun j hj => by omega⟩
  case round =>
    obtain ⟨k, hk, rfl, hleg⟩ := hrel
    by_cases hlt : (k : Int) < (n1 : Int)
    · obtain ⟨b, off, hao, hc⟩ := H1.out.rows.2 k (by omega)
      subst hao
      obtain ⟨st, hst⟩ : ∃ st, st = strAt ss k := ⟨_, rfl⟩
      rw [← hst] at hc
      have HST := Lib.hid hst
      clear hst
      by_cases q1 : (st.size : Int) < 1
      · go_wp2_with fail
        go_ret
        exact ⟨rfl, Below.refl _ _⟩
      by_cases q2 : (63 : Int) < (st.size : Int)
      · have e1 : decide ((st.size : Int) < 1) = false := by simp; omega
        go_wp2_with fail
        go_ret
        exact ⟨rfl, Below.refl _ _⟩
      have e1 : decide ((st.size : Int) < 1) = false := by simp; omega
      go_wp2_with fail
      go_round
      case rel => exact ⟨k + 1, by omega, by go_num, fun j hj => by
        by_cases e : j = k
        · rw [e, ← HST.out]; omega
        · exact hleg.out j (by omega)⟩
      case measure => simp [intOf]; omega
    · have hL : Legal ss := fun j hj => hleg.out j (by have := H1.out.1; omega)
      have HL := Lib.hid hL
      clear hL
      by_cases hp : (hi.toNat : Int) < 192
      · go_wp2_with fail
        go_ret
        exact ⟨rfl, Below.refl _ _⟩
      have hpd : decide ((hi.toNat : Int) < 192) = false := by simp; omega
      have HP : Hid (192 ≤ hi.toNat) := by show 192 ≤ _; omega
      clear hp
      go_wp2_with fail
      refine (clone_any a0 n0 c0 pre w0 H0.out (by omega)).mono ?_
      rintro e w1 ⟨ao0, rfl, hc0, hb1⟩
      have H1' : ArgS w1 a1 n1 ss := ⟨H1.out.1, H1.out.2.1, H1.out.2.2.1, fun ad had j hj => (hb1.cell (World.block_lt_of_cell? w0 _ (H1.out.2.2.2 ad had j hj))).trans (H1.out.2.2.2 ad had j hj)⟩
      have H2' : ArgRow w1 a2 n2 suf := ⟨H2.out.1, H2.out.2.1, fun ad had j hj => (hb1.cell (World.block_lt_of_cell? w0 _ (H2.out.2.2 ad had j hj))).trans (H2.out.2.2 ad had j hj)⟩
      have HC0 := Lib.hid hc0
      have H1'' := Lib.hid H1'
      have H2'' := Lib.hid H2'
      clear hc0 H1' H2'
      go_wp2_with fail
      refine (cloneS_any a1 n1 c1 ss w1 H1''.out (by omega)).mono ?_
      rintro e w2 ⟨ao1, rfl, hc1, hb2⟩
      have H2b : ArgRow w2 a2 n2 suf := ⟨H2''.out.1, H2''.out.2.1, fun ad had j hj => (hb2.cell (World.block_lt_of_cell? w1 _ (H2''.out.2.2 ad had j hj))).trans (H2''.out.2.2 ad had j hj)⟩
      have HC1 := Lib.hid hc1
      have H2c := Lib.hid H2b
      clear hc1 H2b
      go_wp2_with fail
      refine (clone_any a2 n2 c2 suf w2 H2c.out (by omega)).mono ?_
      rintro e w3 ⟨ao2, rfl, hc2, hb3⟩
      have hb03 : Below w0.heap.size w0 w3 := (hb1.trans (hb2.mono hb1.size)).trans (hb3.mono (by have := hb1.size; have := hb2.size; omega))
      have c0' : Cl w3 ao0 n0 pre := (HC0.out.below hb2).below hb3
      have c1' : ClS w3 ao1 n1 ss := HC1.out.below hb3
      have lp : pre.length = n0 := c0'.1
      have ls : suf.length = n2 := hc2.1
      have HA := Lib.hid (appB_any w3.heap.size (.slice none 0 0) [] ao0 n0 n0 pre w3 w3 (OwB.nil _ _) (Below.refl _ _) (Nat.le_refl _) lp (c0'.row m0) (fun b off _ h => by cases h) (by simp) (by omega))
      have C0 := Lib.hid c0'
      have C1 := Lib.hid c1'
      have C2 := Lib.hid hc2
      have LP := Lib.hid lp
      have LS := Lib.hid ls
      clear c0' c1' hc2 lp ls hb1 hb2 hb3 HC0 HC1 H1'' H2'' H2c
      go_wp2_with fail
      refine HA.out.mono ?_
      rintro e w4 ⟨v1, l1, rfl, hl1, ho1, hb4, hs4⟩
      have HE := Lib.hid (encode_any ao1 n1 n1 ss w4 ((C1.out.below hb4).rows) HL.out k1)
      have HO1 := Lib.hid ho1
      clear ho1
      go_wp2_with fail
      refine HE.out.mono ?_
      rintro e w5 ⟨ve, rfl, hoe, hb5⟩
      obtain ⟨ea, ec, hve, hre, _, hge⟩ := hoe.row8
      rw [hve]
      have hl1' : l1 = pre := by have := hl1.out; simpa using this
      have HL1 := Lib.hid hl1'
      have hwl : wire ss ss.length ≤ 64 * n1 := by
        have h9 := wire_le ss HL.out ss.length (Nat.le_refl _)
        have h8 := H1.out.1
        rw [h8] at h9 ⊢
        exact h9
      have hel : (enc ss).length = wire ss ss.length := by
        have h9 := wire_len ss ss.length (Nat.le_refl _)
        rw [List.take_length] at h9
        exact h9
      have hb45 : Below w3.heap.size w3 w5 := hb4.trans (hb5.mono hs4)
      have HA2 := Lib.hid (appB_any w3.heap.size v1 l1 ea (enc ss).length ec (enc ss) w5 w3 (HO1.out.below hb5) hb45 (by have := hb5.size; omega) rfl hre (fun b off h e => by have := (hge b off h).1; have := (HO1.out.ge e).2; omega) (by have := LP.out; rw [hl1']; omega) (by rw [hel]; omega))
      have HEL := Lib.hid hel
      have HWL := Lib.hid hwl
      clear hve hre hge hoe hl1' hl1 hel hwl
      go_wp2_with fail
      refine HA2.out.mono ?_
      rintro e w6 ⟨v2, l2, rfl, hl2, ho2, hb6, hs6⟩
      have HL2 : Hid (l2 = pre ++ enc ss) := by show l2 = _; rw [hl2.out, HL1.out]
      have hl2n : (l2.length : Int) ≤ 400000 := by rw [HL2.out, List.length_append, HEL.out, LP.out]; have := HWL.out; omega
      have hs36 : w3.heap.size ≤ w6.heap.size := hb6.size
      clear hl2
      go_wp2_with (at_builtin; refine wpList_appB rfl _ _ rfl w3.heap.size v2 l2 rfl hi (hi.toNat : Int) rfl ho2 rfl (by omega) hs36 ?_)
      intro v3a w7a l3a hl3a hl3an ho3a hg7a ha7a
      have hb7a : Below w3.heap.size w3 w7a := below_of_grown hb6 hs36 ho2 hg7a.out
      have hs37 : w3.heap.size ≤ w7a.heap.size := hb7a.size
      clear hg7a ha7a ho2
      go_wp2_with (at_builtin; refine wpList_appB rfl _ _ rfl w3.heap.size v3a l3a rfl lo (lo.toNat : Int) rfl ho3a rfl (by omega) hs37 ?_)
      intro v3 w7 l3 hl3 hl3n ho3 hg7 ha7
      have hb7 : Below w3.heap.size w3 w7 := below_of_grown hb7a hs37 ho3a hg7.out
      have HL3 : Hid (l3 = pre ++ enc ss ++ [hi] ++ [lo]) := by show l3 = _; rw [hl3.out, hl3a.out, HL2.out]
      have HA3 := Lib.hid (appB_any w3.heap.size v3 l3 ao2 n2 n2 suf w7 w3 ho3 hb7 hb7.size LS.out ((C2.out.below hb7).row m2) (fun b off h e => by have := C2.out.lt b off h; have := (ho3.ge e).1; omega) (by omega) (by omega))
      clear hl3 hg7 ha7 ho3 ho3a hl3a
      go_wp2_with fail
      refine HA3.out.mono ?_
      rintro e w8 ⟨v4, l4, rfl, hl4, ho4, hb8, hs8⟩
      have hM : l4 = msgOf pre ss (hi :: lo :: suf) := by rw [hl4.out, HL3.out]; simp [msgOf, List.append_assoc]
      have hlen : (l4.length : Int) ≤ 1048576 := by
        rw [hM, msg_len, LP.out]
        have := HWL.out
        have := LS.out
        simp only [List.length_cons]
        omega
      have hpos : 0 < l4.length := by rw [hM, msg_len]; simp only [List.length_cons]; omega
      obtain ⟨g, cap, hv4, hNc, _, hgB, hgl, hcell⟩ := ho4.row hpos
      have hrow : Row8 w8 (some ⟨g, 0, none⟩) l4 := .inr ⟨g, 0, rfl, fun j hj => by rw [Nat.zero_add]; exact hcell j hj⟩
      obtain ⟨N, hN⟩ : ∃ N, N = l4.length := ⟨_, rfl⟩
      rw [← hN] at hv4 hlen hNc
      rw [hv4]
      have HS := Lib.hid (zzskip_any (some ⟨g, 0, none⟩) N cap l4 n0 w8 hN.symm hlen hrow (fun b off h => by cases h; exact hgl))
      have HROW := Lib.hid hrow
      have HGL := Lib.hid hgl
      have HNN := Lib.hid hN
      have HM := Lib.hid hM
      clear hM hpos hcell hrow hN hv4 ho4 hl4 hgl
      go_wp2_with fail
      refine HS.out.mono ?_
      rintro e w9 ⟨hb9, sb, SE, hSE, rfl⟩
      have HN := Lib.hid (zzname3 (some ⟨g, 0, none⟩) N cap l4 n0 w9 HNN.out.symm hlen hNc (HROW.out.below (by exact hb9)) (fun b off h => by cases h; have := hb9.size; have := HGL.out; omega))
      have hb39 : Below w3.heap.size w3 w9 := hb8.trans (hb9.mono hb8.size)
      clear hb8 hb9
      go_wp2_with fail
      refine HN.out.mono ?_
      rintro e w10 ⟨hb10, na, nL, ncp, nb, NE, hNE, rfl⟩
      have hb310 : Below w3.heap.size w3 w10 := hb39.trans (hb10.mono hb39.size)
      have hB9 : Below w0.heap.size w0 w10 := hb03.trans (hb310.mono hb03.size)
      have c1' : ClS w10 ao1 n1 ss := C1.out.below hb310
      have HW := Lib.hid (wire_any ao1 n1 n1 ss w10 c1'.rows HL.out k1)
      have C19 := Lib.hid c1'
      rw [HM.out] at hSE hNE
      have LP' := LP.out
      subst LP'
      clear c1' hb39 hb10
      go_wp2_with fail
      refine HW.out.mono ?_
      rintro e w11 ⟨K0, hu, rfl, rfl⟩
      by_cases hlong : 254 < wire ss K0
      · have hend : K0 = ss.length → ∃ x r, (hi :: lo :: suf) = x :: r ∧ (x = 0 ∨ 64 ≤ x.toNat) := fun _ => ⟨hi, lo :: suf, rfl, .inr (by have := HP.out; omega)⟩
        obtain ⟨rfl, hSv⟩ := skip_long HL.out hu hlong hend hSE.out
        obtain ⟨rfl, hNv, rfl⟩ := nameR_long HL.out hu hlong hend hNE.out
        obtain ⟨W, hWd⟩ : ∃ W : Nat, W = wire ss K0 := ⟨_, rfl⟩
        rw [← hWd] at hSv hNv hlong ⊢
        have hWb : (W : Int) ≤ 1048576 := by
          have h9 := wire_le ss HL.out K0 hu.le
          have h8 := hu.le
          have h7 := H1.out.1
          omega
        have hW254 : (254 : Int) < (W : Int) := by omega
        subst hSv
        subst hNv
        clear hWd hlong hu hend hSE hNE
        go_wp2_with fail
        go_ret
        exact ⟨by simp, hB9⟩
      · obtain ⟨rfl, hSv⟩ := skip_ptr HP.out HL.out hu (by omega) hSE.out
        obtain ⟨rfl, hNv, rfl⟩ := nameR_ptr HP.out HL.out hu (by omega) hNE.out
        have e0 : K0 = ss.length := by rcases hu.stop with e | e <;> omega
        rw [e0] at hlong ⊢
        obtain ⟨W, hWd⟩ : ∃ W : Nat, W = wire ss ss.length := ⟨_, rfl⟩
        rw [← hWd] at hSv hNv hlong ⊢
        have hW254 : (W : Int) ≤ 254 := by omega
        subst hSv
        subst hNv
        clear hWd hlong hu hSE hNE e0
        go_wp2_with fail
        go_ret
        exact ⟨by simp, hB9⟩

end Go.Proofs.Qxb6605469a
