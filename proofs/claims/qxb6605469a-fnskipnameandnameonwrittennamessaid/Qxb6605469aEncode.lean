import Derived.Test.Qxb6605469aBuild
namespace Go.Proofs.Qxb6605469a
open Go.RowKit

theorem below_of_grown {B : Nat} {w w1 w2 : World} {v : Value} {l : List UInt8} (h : Below B w w1) (hB : B ≤ w1.heap.size) (ho : OwB w1 B v l) (hg : w1.grownBy w2 v.ownBlock) : Below B w w2 :=
  h.grown hg hB (fun k hk => (World.ownsRow.lt ho k hk).1)

theorem RowS.cell {w wr : World} {ao : Option Addr} {n : Nat} {ss : List ByteArray} (h : RowS w ao n ss) (hb : Below w.heap.size w wr) {k : Nat} (hk : k < n) : ∃ b off, ao = some ⟨b, off, none⟩ ∧ wr.cell? ⟨b, off + k, none⟩ = some (.string (strAt ss k)) := by
  obtain ⟨b, off, h1, h2⟩ := h.2 k hk
  exact ⟨b, off, h1, (hb.cell (World.block_lt_of_cell? w _ h2)).trans h2⟩

theorem u8_small (n : Nat) (h : n ≤ 63) : ((UInt8.ofNat n).toNat : Int) = (n : Int) := by
  rw [UInt8.toNat_ofNat_of_lt' (by show n < 256; omega)]

set_option maxHeartbeats 2000000 in
theorem encode_any (ao : Option Addr) (n c : Nat) (ss : List ByteArray) (w : World) (hr : RowS w ao n ss) (hl : Legal ss) (hn : (n : Int) ≤ 4096) :
    Calls Try.prog 14 #[.slice ao n c] w fun e w' => ∃ v', e = .returned v' ∧ OwB w' w.heap.size v' (enc ss) ∧ Below w.heap.size w w' := by
  have HR := Lib.hid hr
  have HL := Lib.hid hl
  clear hr hl
  go_enter Try.func14, Try.ntmps14
  go_wp2_with fail
  go_loopw [3, 4] (fun u i wr => ∃ (k : Nat) (X : List UInt8), k ≤ n ∧ i = .int .i64 k ∧ Hid (X = enc (ss.take k)) ∧ (X.length : Int) ≤ 64 * k ∧ OwB wr w.heap.size u X ∧ Below w.heap.size w wr) (fun _ i _ => n - (intOf i).toNat)
  case atStart => exact ⟨0, [], Nat.zero_le _, rfl, by show _ = _; simp [enc], by simp, OwB.nil _ _, Below.refl _ _⟩
  case round =>
    obtain ⟨k, X, hk, rfl, hX, hXl, hu, hb⟩ := hrel
    by_cases hlt : (k : Int) < (n : Int)
    · obtain ⟨b, off, hao, hc⟩ := HR.out.cell hb (k := k) (by omega)
      subst hao
      have hs := HL.out k (by have := HR.out.1; omega)
      obtain ⟨st, hst⟩ : ∃ st, st = strAt ss k := ⟨_, rfl⟩
      rw [← hst] at hc hs
      have s1 : (1 : Int) ≤ (st.size : Int) := by omega
      have s2 : (st.size : Int) ≤ 63 := by omega
      have HST := Lib.hid hst
      have hbs : w.heap.size ≤ wr.heap.size := hb.size
      have hbw : b < w.heap.size := by
        obtain ⟨b2, off2, h1, h2⟩ := HR.out.2 k (by omega)
        cases h1
        exact World.block_lt_of_cell? w _ h2
      clear hst hs
      go_wp2_with (at_builtin; refine wpList_appB rfl _ _ rfl w.heap.size u3 X rfl (UInt8.ofNat st.size) (st.size : Int) (u8_small _ (by omega)).symm hu rfl (by omega) hbs ?_)
      intro v' w1 X1 hX1 hL1 hs1 hg1 ha1
      have hb1 : Below w.heap.size w w1 := below_of_grown hb hbs hu hg1.out
      have hc1 : w1.cell? ⟨b, off + k, none⟩ = some (.string st) := by
        have h2 := hg1.out.cell hc (fun e => by have := (World.ownsRow.lt hu b e.symm).1; omega)
        exact h2
      have HX1 : Hid (X1 = enc (ss.take k) ++ [UInt8.ofNat st.size]) := by
        have h1 := hX1.out
        have h2 := hX.out
        show X1 = _
        rw [h1, h2]
      clear hX1 hg1 ha1 hu hc hb
      obtain ⟨wo, hwo⟩ : ∃ wo : World, wo = wr := ⟨_, rfl⟩
      clear hwo
      go_wp2_with fail
      go_loopw [3, 5] (fun u i wr => ∃ (j : Nat) (Y : List UInt8), j ≤ st.size ∧ i = .int .i64 j ∧ Hid (Y = X1 ++ st.data.toList.take j) ∧ (Y.length : Int) ≤ X1.length + j ∧ OwB wr w.heap.size u Y ∧ Below w.heap.size w wr) (fun _ i _ => st.size - (intOf i).toNat)
      case atStart => exact ⟨0, X1, Nat.zero_le _, rfl, by show _ = _; simp, by omega, hs1, hb1⟩
      case round =>
        obtain ⟨j, Y, hj, rfl, hY, hYl, hu, hb⟩ := hrel
        have hbs' : w.heap.size ≤ wr.heap.size := hb.size
        have hc2 : wr.cell? ⟨b, off + k, none⟩ = some (.string st) := by
          obtain ⟨b2, off2, h1, h2⟩ := HR.out.cell hb (k := k) (by omega)
          cases h1
          rw [h2, HST.out]
        clear hc1 hs1 hb1
        by_cases hjl : j < st.size
        · have hji : (j : Int) < (st.size : Int) := by omega
          obtain ⟨ch, hch⟩ : ∃ ch : UInt8, ch = st.data.toList.getD j 0 := ⟨_, rfl⟩
          have hgd : (ch.toNat : Int) = (st[j].toNat : Int) := by rw [hch]; exact byteAt_str st j hjl
          have HGD := Lib.hid hgd
          have HCH := Lib.hid hch
          clear hgd hch
          go_wp2_with (at_builtin; refine wpList_appB rfl _ _ rfl w.heap.size u3 Y rfl ch (st[j].toNat : Int) HGD.out.symm hu rfl (by omega) hbs' ?_)
          intro v2 w2 Y2 hY2 hL2 hs2 hg2 ha2
          have hb2 : Below w.heap.size w w2 := below_of_grown hb hbs' hu hg2.out
          have HY2 : Hid (Y2 = X1 ++ st.data.toList.take (j + 1)) := by
            have h1 := hY2.out
            have h2 := hY.out
            have h3 := take_snoc8 st.data.toList j hjl
            show Y2 = X1 ++ st.data.toList.take (j + 1)
            rw [h1, h2, h3, List.append_assoc, HCH.out]
          clear hY2 hg2 ha2 hu hb
          go_wp2_with fail
          go_roundw
          case rel => exact ⟨j + 1, Y2, by omega, by go_num, HY2, by omega, hs2, hb2⟩
          case measure => simp [intOf]; omega
        · have HYf : Hid (Y = enc (ss.take (k + 1))) := by
            have h1 := hY.out
            have h2 := HX1.out
            have h4 : st.data.toList.take j = st.data.toList := List.take_of_length_le (by show st.size ≤ j; omega)
            show Y = _
            rw [h1, h2, h4, enc_take ss k (by have := HR.out.1; omega), List.append_assoc, ← HST.out]
            rfl
          go_wp2_with fail
          go_roundw
          case rel => exact ⟨k + 1, Y, by omega, by go_num, HYf, by omega, hu, hb⟩
          case measure => simp [intOf]; omega
    · go_wp2_with fail
      go_ret
      refine ⟨_, rfl, ?_, hb⟩
      have e : X = enc ss := by rw [hX.out, List.take_of_length_le (by have := HR.out.1; omega)]
      rw [← e]
      exact hu

end Go.Proofs.Qxb6605469a
