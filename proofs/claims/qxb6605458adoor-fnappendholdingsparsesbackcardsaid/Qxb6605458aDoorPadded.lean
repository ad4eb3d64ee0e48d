import Derived.Test.Qxb6605458aDoorOwn
namespace Go.Proofs.Qxb6605458aDoor
open Go.RowKit

abbrev Tab (B : Nat) (w : World) : Prop := Lib.TabBelow Tryd.prog B w Tryd.tabName .u64 Lib.pow10Tab

theorem itoa_any (n : Int) (h0 : -9223372036854775808 ≤ n) (h1 : n ≤ 9223372036854775807) (w : World) (htab : Lib.TabIs Tryd.prog w Tryd.tabName .u64 Lib.pow10Tab) :
    Calls Tryd.prog 18 #[.int .i64 n] w fun e w' => e = .returned (.string ⟨(Lib.itoa n).toArray⟩) ∧ Below w.heap.size w w' :=
  (Tryd.strconv_Itoa n h0 h1 w htab).mono fun e w' ⟨he, k, os, hw⟩ => ⟨he, by rw [hw]; exact Lib.below_grow _ _ (Nat.le_refl _) _ _⟩

/-- What appendPadded appends. -/
def padded (n width : Int) : List UInt8 := List.replicate (width - (Lib.itoa n).length).toNat 48 ++ Lib.itoa n

theorem cells_snoc (xs : List Value) (k : Nat) : xs ++ (Lib.byteCells (List.replicate k 48) ++ [Value.int .u8 48]) = xs ++ Lib.byteCells (List.replicate (k + 1) 48) := by
  rw [List.replicate_succ', Lib.byteCells_append]
  rfl

set_option maxHeartbeats 1000000 in
theorem padded_any (B n : Nat) (i width : Int) (hi0 : -9223372036854775808 ≤ i) (hi1 : i ≤ 9223372036854775807) (hw0 : -65536 ≤ width) (hw1 : width ≤ 65536) (sv : Value) (xs : List Value) (w : World)
    (hslc : Slc w B sv n xs) (hB : B ≤ w.heap.size) (hn : n ≤ 1099511627776) (htab : Tab B w) :
    Calls Tryd.prog 16 #[sv, .int .i64 i, .int .i64 width] w fun e w' => ∃ v', e = .returned v' ∧ w'.ownsRow B 5 1 v' (n + (padded i width).length) (xs ++ Lib.byteCells (padded i width)) ∧ Below B w w' := by
  have hlen := Lib.itoa_length_le i hi0 hi1
  have hpos : 0 < (Lib.itoa i).length := by rw [itoa_len]; have := Lib.nDigits_pos i.natAbs; omega
  obtain ⟨t, ht⟩ : ∃ t : ByteArray, t = ⟨(Lib.itoa i).toArray⟩ := ⟨_, rfl⟩
  have hts : t.size = (Lib.itoa i).length := by rw [ht]; rfl
  have htc : Lib.strCells t = Lib.byteCells (Lib.itoa i) := by rw [ht]; rfl
  have hitoa := itoa_any i hi0 hi1 w htab.here
  rw [← ht] at hitoa
  have HC := Lib.hid htc
  have HS := Lib.hid hts
  have hl21 : t.size ≤ 21 := by omega
  have hp : 0 < t.size := by omega
  have HI := Lib.hid hitoa
  have HT := Lib.hid ht
  obtain ⟨a, c, rfl⟩ := hslc.shape
  clear htc hts hlen hpos hitoa ht
  go_enter Tryd.func16, Tryd.ntmps16
  go_wp2_with (go_at_call 18; refine HI.out.mono ?_; rintro e w1 ⟨rfl, hb1⟩)
  have hslc1 := hslc.below hb1
  have hB1 : B ≤ w1.heap.size := by have := hb1.size; omega
  have hbel1 : Below B w w1 := hb1.mono hB
  clear hslc hb1
  go_loopw [0, 14] (fun v q wr => ∃ k : Nat, (k = 0 ∨ (k : Int) ≤ width - t.size) ∧ q = .int .i64 k ∧ Slc wr B v (n + k) (xs ++ Lib.byteCells (List.replicate k 48)) ∧ Below B w wr) (fun _ q _ => (width - t.size - intOf q).toNat)
  case atStart => exact ⟨0, .inl rfl, rfl, by simpa [Lib.byteCells] using hslc1, hbel1⟩
  case round =>
    obtain ⟨k, hk, rfl, hs, hb⟩ := hrel
    have hBr : B ≤ wr.heap.size := by have := hb.size; omega
    by_cases hlt : (k : Int) < width - t.size
    · have hk2 : k ≤ 65536 := by omega
      clear hk
      go_wp2_with (at_builtin; refine wpList_append_slc rfl _ _ rfl B _ (n + k) _ rfl (hs.alloc _) ⟨wr.heap.size, 0, none⟩ 1 1 [Value.int .u8 48] rfl rfl (by intro j u' hj; match j, hj with | 0, hj => simp at hj; subst hj; simp [Addr.add]) (by intro u' hu'; simp at hu'; subst hu'; rfl) (by decide) (by omega) (by simp; omega) ?_)
      intro v' w2 hown hb2
      have hb3 : Below B w w2 := (hb.alloc hBr _).trans hb2
      rw [cells_snoc] at hown
      clear hs hb2
      go_wp2
      go_roundw
      case rel => exact ⟨k + 1, .inr (by omega), by go_num, .inl hown, hb3⟩
      case measure => simp [intOf]; omega
    · have hz : (width - (Lib.itoa i).length).toNat = k := by have := HS.out; omega
      have HZ := Lib.hid hz
      clear hz
      have hk2 : k ≤ 65536 := by omega
      clear hk
      go_wp2_with (at_builtin; refine wpList_append_slcS rfl _ _ rfl B _ (n + k) _ rfl hs t rfl (by omega) hBr ?_)
      intro v' w2 _ hown hb2
      have hb3 : Below B w w2 := hb.trans hb2
      have e1 : n + k + t.size = n + (padded i width).length := by
        have := HS.out
        have := HZ.out
        simp only [padded, List.length_append, List.length_replicate]; omega
      have e2 : xs ++ (Lib.byteCells (List.replicate k 48) ++ Lib.strCells t) = xs ++ Lib.byteCells (padded i width) := by
        rw [HC.out, ← Lib.byteCells_append, padded, HZ.out]
      have HO : Hid (w2.ownsRow B 5 1 v' (n + (padded i width).length) (xs ++ Lib.byteCells (padded i width))) := by
        have h5 := hown
        rw [e1, e2] at h5
        exact h5
      clear hown e1 e2 hb2 hs
      go_wp2
      go_ret
      exact ⟨_, rfl, HO.out, hb3⟩
end Go.Proofs.Qxb6605458aDoor
