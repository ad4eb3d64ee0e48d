import Derived.Test.Qxb6003641aSit
namespace Go.Proofs.Qxb6003641a
open Go.RowKit

set_option maxRecDepth 20000 in
set_option maxHeartbeats 8000000 in
theorem law6 (a0 a1 : Option Addr) (rn c0 hn c1 : Nat) (x : ByteArray) (rs : List ByteArray) (hs : List Bool) (w : World) (h0 : ArgS w a0 rn rs) (h1 : ArgB w a1 hn hs) (m0 : rn ≤ maxLen) (m1 : hn ≤ maxLen) (hx : x.size ≤ maxLen) :
    Calls Try.prog 6 #[.slice a0 rn c0, .slice a1 hn c1, .string x] w fun e w' => e = .returned (.bool true) ∧ Below w.heap.size w w' := by
  have H0 := Lib.hid h0
  have H1 := Lib.hid h1
  have HX := Lib.hid hx
  have b0 : (rn : Int) ≤ 9223372036854775807 := by unfold maxLen at m0; omega
  have b1 : (hn : Int) ≤ 9223372036854775807 := by unfold maxLen at m1; omega
  have b2 : (x.size : Int) ≤ 9223372036854775807 := by unfold maxLen at hx; omega
  have HB := Lib.hid (bytes21_any a0 a1 rn c0 hn c1 x rs w b0 b1 b2 h0.rows h0.sizes)
  have HF : Hid ((∀ s ∈ rs, s.size ≤ 1048576) → Calls Try.prog 8 #[.slice a0 rn c0, .slice a1 hn c1, .string x] w fun e w' => YesIf e (rn ≤ 4096 ∧ hn ≤ 4096) ∧ w' = w) := fun hz => fits_any a0 a1 rn c0 hn c1 x rs w b0 b1 b2 h0.rows hz
  clear h0 h1 b0 b1 b2 hx
  go_enter Try.func6, Try.ntmps6
  go_wp2_with fail
  refine HB.out.mono ?_
  rintro e w0 ⟨⟨b, rfl, hb⟩, rfl⟩
  cases b with
  | false =>
    go_wp2_with fail
    go_ret
    exact ⟨rfl, Below.refl _ _⟩
  | true =>
  have HF' := Lib.hid (HF.out (hb rfl))
  clear hb HF
  go_wp2_with fail
  refine HF'.out.mono ?_
  rintro e w1 ⟨⟨b, rfl, hb⟩, rfl⟩
  cases b with
  | false =>
    go_wp2_with fail
    go_ret
    exact ⟨rfl, Below.refl _ _⟩
  | true =>
  obtain ⟨k0, k1⟩ := hb rfl
  have k0' : (rn : Int) ≤ 4096 := by omega
  have k1' : (hn : Int) ≤ 4096 := by omega
  have K0 := Lib.hid k0
  clear hb HF' HB k0 k1
  go_wp2_with fail
  refine (cloneS_any a0 rn c0 rs w1 H0.out k0').mono ?_
  rintro e w2 ⟨ao0, rfl, hr2, hb2⟩
  have H1' := Lib.hid (H1.out.below hb2.out)
  go_wp2_with fail
  refine (cloneB_any a1 hn c1 hs w2 H1'.out k1').mono ?_
  rintro e w3 ⟨ao1, rfl, hr3, hb3⟩
  have hb13 : Hid (Below w1.heap.size w1 w3) := hb2.out.trans (hb3.out.mono hb2.out.size)
  have hba : Hid (Below w3.heap.size w3 (w3.alloc tokO)) := (Below.refl _ _).alloc (Nat.le_refl _) _
  have hrl : Hid (RowLow (w3.alloc tokO) w3.heap.size ao0 rn rs) := by
    have h : RowLow w3 w2.heap.size ao0 rn rs := hr2.out.below hb3.out
    exact RowLow.below ⟨h.1, fun b off e => by have := h.2 b off e; have := hb3.out.size; omega⟩ hba.out
  have hrb : Hid (RowBLow (w3.alloc tokO) w3.heap.size ao1 hn hs) := hr3.out.below hba.out
  have HRun := Lib.hid (run_any w3.heap.size w3.heap.size ao0 ao1 rn rn hn hn rs hs (w3.alloc tokO) (good_init w3) (by simp) hrl.out H0.out.sizes hrb.out k0')
  have HZ := Lib.hid H0.out.sizes
  unfold tokO at HRun
  clear hr2 hr3 hrb hb2 hb3 H1 H1' H0
  go_wp2_with fail
  refine HRun.out.mono ?_
  rintro e w4 ⟨kv, fv, rfl, hg⟩
  obtain ⟨m4, kn, fr, B, S4, F4, P4, l1, l2⟩ := hg.out.1.sit (w0 := w1) (hrl.out.below hg.out.2) (hb13.out.trans ((hba.out.trans hg.out.2).mono hb13.out.size)) (by have := hg.out.2.size; simp at this; omega) hb13.out.size
  clear hg hrl hba hb13 HRun
  obtain ⟨fa, fc, hfv, hfr⟩ := F4.out.row
  have HIX : Hid (Calls Try.prog 22 #[fv, .string x] w4 fun e w' => ∃ r, Hid (IdxRes fr x r) ∧ e = .returned (.int .i64 r) ∧ w' = w4) := by
    show Calls _ _ _ _ _
    rw [hfv]
    exact index_any fa fr.length fc fr x w4 hfr (by have := l2.out; omega)
  clear hfv hfr
  go_wp2_with fail
  refine HIX.out.mono ?_
  rintro e w5 ⟨r, hr, rfl, rfl⟩
  clear HIX
  rcases hr.out with ⟨_, rfl⟩ | ⟨k, hk, hks, rfl⟩
  · go_wp2_with fail
    go_ret
    exact ⟨rfl, S4.out.low⟩
  have hxf : Hid (x ∈ fr) := by show x ∈ fr; rw [← hks]; exact strAt_mem fr k hk
  have HK := Lib.hid hk
  have HKS := Lib.hid hks
  have hk0 : decide ((k : Int) < 0) = false := by simp
  have hxk := Lib.hid (S4.out.inv.sub x hxf.out)
  have HL := Lib.hid (S4.out.look hxk.out)
  clear hk hks hr
  go_wp2_with fail
  refine HL.out.mono ?_
  rintro e w6 ⟨b, rfl, hbB, rfl⟩
  have HU := Lib.hid (S4.out.zunlink hbB.out hxf.out (by have := l2.out; omega))
  clear HL hk0
  go_wp2_with fail
  refine HU.out.mono ?_
  rintro e w7 ⟨rfl, S7, R7⟩
  have HRM := Lib.hid (S7.out.remove (R7.out _ _ _ F4.out) (by have := l2.out; omega) S4.out.inv.nod HK.out HKS.out)
  clear HU
  go_wp2_with fail
  refine HRM.out.mono ?_
  rintro e w8 ⟨v8, rfl, S8, F8, _⟩
  have hnf : Hid (x ∉ del fr x) := fun e => (mem_del.1 e).2 rfl
  have E := S8.out.inv.ent x hxk.out
  have c3 : w8.cell? ⟨B x, 3, none⟩ = some (.bool false) := by rw [E.c3, inB_no hnf.out]
  have c4 : w8.cell? ⟨B x, 4, none⟩ = some (.pointer none) := by rw [E.c4, prevOf_not hnf.out]; rfl
  have c5 : w8.cell? ⟨B x, 5, none⟩ = some (.pointer none) := by rw [E.c5, nextOf_not hnf.out]; rfl
  rw [← hbB.out] at c3 c4 c5
  have hdl : Hid ((del fr x).length ≤ 4096) := Nat.le_trans (del_len fr x) l2.out
  have HT8 := Lib.hid (S8.out.state (x := x) F8.out (by have := l1.out; omega) (by have := hdl.out; omega) HZ.out K0.out HX.out rn)
  clear HRM E
  go_wp2_with (first | (go_at_call 24; refine (isFree_c b _ _ c3).mono ?_; rintro e w9 ⟨rfl, rfl⟩) | (go_at_call 25; refine (older_c b _ _ c4).mono ?_; rintro e w9 ⟨rfl, rfl⟩) | (go_at_call 26; refine (newer_c b _ _ c5).mono ?_; rintro e w9 ⟨rfl, rfl⟩))
  refine HT8.out.mono ?_
  rintro e w10 ⟨rfl, S10, R10, _⟩
  have F10 := Lib.hid (R10.out _ _ _ F8.out)
  have HZF := Lib.hid (S10.out.zfree hxk.out hnf.out (by have := hdl.out; omega))
  clear HT8 c3 c4 c5
  go_wp2_with fail
  refine HZF.out.mono ?_
  rintro e w11 ⟨rfl, S11, R11⟩
  have HC := Lib.hid (S11.out.copy (R11.out _ _ _ F10.out) (by have := hdl.out; omega))
  clear HZF
  go_wp2_with fail
  refine HC.out.mono ?_
  rintro e w12 ⟨v12, rfl, S12, F12, P12, _⟩
  obtain ⟨fr2, hfr2⟩ : ∃ fr2, fr2 = del fr x := ⟨_, rfl⟩
  rw [← hfr2] at F12 S12 hdl
  have F12' := F12.out
  have hl12 : fr2.length + 1 ≤ 1099511627776 := by have := hdl.out; omega
  have ht12 := S12.out.top
  clear HC hfr2
  go_wp2_with (at_builtin; refine wpList_appS2 rfl _ _ rfl _ v12 fr2 rfl x F12' rfl hl12 ht12 ?_)
  intro v13 w13 F13 g13 _
  have S13 := Lib.hid (S12.out.app F12.out (Nat.le_refl _) (P12.out _ _ _ S11.out.kno) g13.out)
  have HT13 := Lib.hid (S13.out.state (x := x) F13.out (by have := l1.out; omega) (by have := hdl.out; simp; omega) HZ.out K0.out HX.out rn)
  clear F12' hl12 ht12
  go_wp2_with fail
  refine HT13.out.mono ?_
  rintro e w14 ⟨rfl, S14, _, _⟩
  go_wp2_with fail
  go_ret
  exact ⟨rfl, S14.out.low⟩

end Go.Proofs.Qxb6003641a
