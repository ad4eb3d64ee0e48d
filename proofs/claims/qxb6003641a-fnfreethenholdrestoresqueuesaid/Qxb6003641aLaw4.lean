import Derived.Test.Qxb6003641aSit
namespace Go.Proofs.Qxb6003641a
open Go.RowKit

set_option maxRecDepth 20000 in
set_option maxHeartbeats 8000000 in
theorem law4 (a0 a1 : Option Addr) (rn c0 hn c1 : Nat) (x : ByteArray) (rs : List ByteArray) (hs : List Bool) (w : World) (h0 : ArgS w a0 rn rs) (h1 : ArgB w a1 hn hs) (m0 : rn ≤ maxLen) (m1 : hn ≤ maxLen) (hx : x.size ≤ maxLen) :
    Calls Try.prog 4 #[.slice a0 rn c0, .slice a1 hn c1, .string x] w fun e w' => e = .returned (.bool true) ∧ Below w.heap.size w w' := by
  have H0 := Lib.hid h0
  have H1 := Lib.hid h1
  have HX := Lib.hid hx
  have b0 : (rn : Int) ≤ 9223372036854775807 := by unfold maxLen at m0; omega
  have b1 : (hn : Int) ≤ 9223372036854775807 := by unfold maxLen at m1; omega
  have b2 : (x.size : Int) ≤ 9223372036854775807 := by unfold maxLen at hx; omega
  have HB := Lib.hid (bytes13_any a0 a1 rn c0 hn c1 x rs w b0 b1 b2 h0.rows h0.sizes)
  have HF : Hid ((∀ s ∈ rs, s.size ≤ 1048576) → Calls Try.prog 8 #[.slice a0 rn c0, .slice a1 hn c1, .string x] w fun e w' => YesIf e (rn ≤ 4096 ∧ hn ≤ 4096) ∧ w' = w) := fun hz => fits_any a0 a1 rn c0 hn c1 x rs w b0 b1 b2 h0.rows hz
  clear h0 h1 b0 b1 b2 hx
  go_enter Try.func4, Try.ntmps4
  go_wp2_with fail
  refine HB.out.mono ?_
  rintro e w0 ⟨⟨b, rfl, hb⟩, rfl⟩
  cases b with
  | false =>
    go_wp2_with fail
    go_ret
    exact ⟨rfl, Below.refl _ _⟩
  | true =>
  have HF' := Lib.hid (HF.out (hb rfl))
  clear hb HF
  go_wp2_with fail
  refine HF'.out.mono ?_
  rintro e w1 ⟨⟨b, rfl, hb⟩, rfl⟩
  cases b with
  | false =>
    go_wp2_with fail
    go_ret
    exact ⟨rfl, Below.refl _ _⟩
  | true =>
  obtain ⟨k0, k1⟩ := hb rfl
  have k0' : (rn : Int) ≤ 4096 := by omega
  have k1' : (hn : Int) ≤ 4096 := by omega
  have K0 := Lib.hid k0
  clear hb HF' HB k0 k1
  go_wp2_with fail
  refine (cloneS_any a0 rn c0 rs w1 H0.out k0').mono ?_
  rintro e w2 ⟨ao0, rfl, hr2, hb2⟩
  have H1' := Lib.hid (H1.out.below hb2.out)
  go_wp2_with fail
  refine (cloneB_any a1 hn c1 hs w2 H1'.out k1').mono ?_
  rintro e w3 ⟨ao1, rfl, hr3, hb3⟩
  have hb13 : Hid (Below w1.heap.size w1 w3) := hb2.out.trans (hb3.out.mono hb2.out.size)
  have hba : Hid (Below w3.heap.size w3 (w3.alloc tokO)) := (Below.refl _ _).alloc (Nat.le_refl _) _
  have hrl : Hid (RowLow (w3.alloc tokO) w3.heap.size ao0 rn rs) := by
    have h : RowLow w3 w2.heap.size ao0 rn rs := hr2.out.below hb3.out
    exact RowLow.below ⟨h.1, fun b off e => by have := h.2 b off e; have := hb3.out.size; omega⟩ hba.out
  have hrb : Hid (RowBLow (w3.alloc tokO) w3.heap.size ao1 hn hs) := hr3.out.below hba.out
  have HRun := Lib.hid (run_any w3.heap.size w3.heap.size ao0 ao1 rn rn hn hn rs hs (w3.alloc tokO) (good_init w3) (by simp) hrl.out H0.out.sizes hrb.out k0')
  have HZ := Lib.hid H0.out.sizes
  unfold tokO at HRun
  clear hr2 hr3 hrb hb2 hb3 H1 H1' H0
  go_wp2_with fail
  refine HRun.out.mono ?_
  rintro e w4 ⟨kv, fv, rfl, hg⟩
  obtain ⟨m4, kn, fr, B, S4, F4, P4, l1, l2⟩ := hg.out.1.sit (w0 := w1) (hrl.out.below hg.out.2) (hb13.out.trans ((hba.out.trans hg.out.2).mono hb13.out.size)) (by have := hg.out.2.size; simp at this; omega) hb13.out.size
  clear hg hrl hba hb13 HRun
  have HH := Lib.hid (S4.out.hstep F4.out P4.out HX.out l1.out l2.out)
  go_wp2_with fail
  refine HH.out.mono ?_
  rintro e w5 ⟨kv5, fv5, rfl, m5, kn5, fr5, B5, S5, F5, hxk, hxf, l5, l6⟩
  have HT5 := Lib.hid (S5.out.state (x := x) F5.out (by have := l5.out; omega) (by have := l6.out; omega) HZ.out K0.out HX.out rn)
  clear HH S4 F4 P4 l1 l2
  go_wp2_with fail
  refine HT5.out.mono ?_
  rintro e w6 ⟨rfl, S6, R6, _⟩
  have F6 := Lib.hid (R6.out _ _ _ F5.out)
  have HL6 := Lib.hid (S6.out.look hxk.out)
  clear HT5 S5 F5
  go_wp2_with fail
  refine HL6.out.mono ?_
  rintro e w7 ⟨b, rfl, hbB, rfl⟩
  have HZF := Lib.hid (S6.out.zfree hxk.out hxf.out (by have := l6.out; omega))
  clear HL6
  go_wp2_with fail
  refine HZF.out.mono ?_
  rintro e w8 ⟨rfl, S8, R8⟩
  have F8 := Lib.hid (R8.out _ _ _ F6.out)
  have HC := Lib.hid (S8.out.copy F8.out (by have := l6.out; omega))
  clear HZF
  go_wp2_with fail
  refine HC.out.mono ?_
  rintro e w9 ⟨v9, rfl, S9, F9, P9, R9⟩
  have F9' := F9.out
  have hl9 : fr5.length + 1 ≤ 1099511627776 := by have := l6.out; omega
  have ht9 := S9.out.top
  clear HC
  go_wp2_with (at_builtin; refine wpList_appS2 rfl _ _ rfl _ v9 fr5 rfl x F9' rfl hl9 ht9 ?_)
  intro v10 w10 F10 g10 _
  have S10 := Lib.hid (S9.out.app F9.out (Nat.le_refl _) (P9.out _ _ _ S8.out.kno) g10.out)
  have hfv : Hid (OwS w10 w3.heap.size fv5 fr5) := by
    exact (R9.out _ _ _ F8.out).grown g10.out (P9.out _ _ _ F8.out)
  have HT10 := Lib.hid (S10.out.state (x := x) F10.out (by have := l5.out; omega) (by have := l6.out; simp; omega) HZ.out K0.out HX.out rn)
  clear F9' hl9 ht9
  go_wp2_with fail
  refine HT10.out.mono ?_
  rintro e w11 ⟨rfl, S11, R11, _⟩
  have HHD := Lib.hid (S11.out.zhold hxk.out (by have := l6.out; simp; omega) hbB.out)
  have F11 := Lib.hid (R11.out _ _ _ hfv.out)
  have neq := neqSame (some ⟨b, 0, none⟩)
  clear HT10
  go_wp2_with fail
  refine HHD.out.mono ?_
  rintro e w12 ⟨rfl, S12, R12⟩
  obtain ⟨m12, B12, S12'⟩ := S12.out
  rw [del_snoc hxf.out] at S12'
  have HT12 := Lib.hid (S12'.state (x := x) (R12.out _ _ _ F11.out) (by have := l5.out; omega) (by have := l6.out; omega) HZ.out K0.out HX.out rn)
  clear S12' HHD
  go_wp2_with fail
  refine HT12.out.mono ?_
  rintro e w13 ⟨rfl, S13, _, _⟩
  go_wp2_with fail
  go_ret
  exact ⟨rfl, S13.out.low⟩

end Go.Proofs.Qxb6003641a
