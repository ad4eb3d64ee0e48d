import Derived.Test.Qxb6003641aClone
namespace Go.Proofs.Qxb6003641a
open Go.RowKit

/-- A Tokens that was just made. -/
def tokO : Obj := .cells #[.map none, .pointer none, .pointer none, .int .i64 0, .int .u64 0] 33

theorem good_init (w : World) : Good (w.alloc tokO) w.heap.size w.heap.size 0 (.slice none 0 0) (.slice none 0 0) := by
  have hb : (w.alloc tokO).heap[w.heap.size]? = some tokO := heap_alloc_new w _
  refine ⟨none, [], [], fun _ => 0, ⟨?_, rfl, (fun s hs => by cases hs), (fun s hs => by cases hs), List.nodup_nil, (fun s hs => by cases hs), Nat.le_refl _, (fun b h => by cases h), (fun s hs => by cases hs)⟩, OwS.nil _ _, OwS.nil _ _, (fun g hg => by cases hg), Nat.le_refl _, Nat.le_refl _⟩
  exact ⟨by rw [cell_of_row _ _ _ _ _ _ hb]; rfl, by rw [cell_of_row _ _ _ _ _ _ hb]; rfl, by rw [cell_of_row _ _ _ _ _ _ hb]; rfl, by rw [cell_of_row _ _ _ _ _ _ hb]; rfl, by rw [cell_of_row _ _ _ _ _ _ hb]; rfl, ⟨_, hb⟩⟩

theorem Inv.stateO {w : World} {base T b1 b2 : Nat} {m : Option Nat} {kn fr : List ByteArray} {B : ByteArray → Nat} (h : Inv w base T m kn fr B) {kv fv : Value} (hk : OwS w b1 kv kn) (hf : OwS w b2 fv fr) (hkl : kn.length ≤ 1000000) (hfl : fr.length ≤ 1000000) {ra : Option Addr} {rn : Nat} {rs : List ByteArray} {x : ByteArray} (hr : RowS w ra rn rs) (hrz : ∀ s ∈ rs, s.size ≤ maxLen) (hrn : rn ≤ 1048576) (hz : x.size ≤ maxLen) (rc : Nat) :
    Calls Try.prog 12 #[.pointer (some ⟨T, 0, none⟩), .slice ra rn rc, .string x, kv, fv] w fun e w' => e = .returned (.bool true) ∧ ∃ q, w' = w.drewN q := by
  obtain ⟨ka, kc, rfl, hkr⟩ := hk.row
  obtain ⟨fa, fc, rfl, hfr⟩ := hf.row
  exact h.state hr hrz hrn hz hkr hfr (by omega) (by omega)

theorem below_drewN {b : Nat} {w w' : World} (h : Below b w w') (q : Nat) : Below b w (w'.drewN q) := ⟨h.os, h.tape, h.output, h.size, h.block⟩

set_option maxRecDepth 20000 in
set_option maxHeartbeats 4000000 in
theorem law3 (a0 a1 : Option Addr) (rn c0 hn c1 : Nat) (rs : List ByteArray) (hs : List Bool) (w : World) (h0 : ArgS w a0 rn rs) (h1 : ArgB w a1 hn hs) (m0 : rn ≤ maxLen) (m1 : hn ≤ maxLen) :
    Calls Try.prog 3 #[.slice a0 rn c0, .slice a1 hn c1] w fun e w' => e = .returned (.bool true) ∧ Below w.heap.size w w' := by
  have H0 := Lib.hid h0
  have H1 := Lib.hid h1
  have b0 : (rn : Int) ≤ 9223372036854775807 := by unfold maxLen at m0; omega
  have b1 : (hn : Int) ≤ 9223372036854775807 := by unfold maxLen at m1; omega
  have HB := Lib.hid (bytes7_any a0 a1 rn c0 hn c1 rs w b0 b1 h0.rows h0.sizes)
  have HF : Hid ((∀ s ∈ rs, s.size ≤ 1048576) → Calls Try.prog 8 #[.slice a0 rn c0, .slice a1 hn c1, .string ⟨#[]⟩] w fun e w' => YesIf e (rn ≤ 4096 ∧ hn ≤ 4096) ∧ w' = w) := fun hz => fits_any a0 a1 rn c0 hn c1 ⟨#[]⟩ rs w b0 b1 (by decide) h0.rows hz
  clear h0 h1 b0 b1
  go_enter Try.func3, Try.ntmps3
  go_wp2_with fail
  refine HB.out.mono ?_
  rintro e w0 ⟨⟨b, rfl, hb⟩, rfl⟩
  cases b with
  | false =>
    go_wp2_with fail
    go_ret
    exact ⟨rfl, Below.refl _ _⟩
  | true =>
  have HF' := Lib.hid (HF.out (hb rfl))
  clear hb HF
  go_wp2_with fail
  refine HF'.out.mono ?_
  rintro e w1 ⟨⟨b, rfl, hb⟩, rfl⟩
  cases b with
  | false =>
    go_wp2_with fail
    go_ret
    exact ⟨rfl, Below.refl _ _⟩
  | true =>
  obtain ⟨k0, k1⟩ := hb rfl
  have k0' : (rn : Int) ≤ 4096 := by omega
  have k1' : (hn : Int) ≤ 4096 := by omega
  clear hb HF' k0 k1
  go_wp2_with fail
  refine (cloneS_any a0 rn c0 rs w1 H0.out k0').mono ?_
  rintro e w2 ⟨ao0, rfl, hr2, hb2⟩
  have H1' := Lib.hid (H1.out.below hb2.out)
  go_wp2_with fail
  refine (cloneB_any a1 hn c1 hs w2 H1'.out k1').mono ?_
  rintro e w3 ⟨ao1, rfl, hr3, hb3⟩
  have hb13 : Hid (Below w1.heap.size w1 w3) := hb2.out.trans (hb3.out.mono hb2.out.size)
  have hba : Hid (Below w3.heap.size w3 (w3.alloc tokO)) := (Below.refl _ _).alloc (Nat.le_refl _) _
  have hrl : Hid (RowLow (w3.alloc tokO) w3.heap.size ao0 rn rs) := by
    have h : RowLow w3 w2.heap.size ao0 rn rs := hr2.out.below hb3.out
    exact RowLow.below ⟨h.1, fun b off e => by have := h.2 b off e; have := hb3.out.size; omega⟩ hba.out
  have hrb : Hid (RowBLow (w3.alloc tokO) w3.heap.size ao1 hn hs) := hr3.out.below hba.out
  have HRun := Lib.hid (run_any w3.heap.size w3.heap.size ao0 ao1 rn rn hn hn rs hs (w3.alloc tokO) (good_init w3) (by simp) hrl.out H0.out.sizes hrb.out k0')
  unfold tokO at HRun
  go_wp2_with fail
  refine HRun.out.mono ?_
  rintro e w4 ⟨kv, fv, rfl, hg⟩
  have HST : Hid (Calls Try.prog 12 #[.pointer (some ⟨w3.heap.size, 0, none⟩), .slice ao0 rn rn, .string ⟨#[]⟩, kv, fv] w4 fun e w' => e = .returned (.bool true) ∧ ∃ q, w' = w4.drewN q) := by
    obtain ⟨⟨m, kn, fr, B, hI, hk, hf, _, hkl, hfl⟩, hb4⟩ := hg.out
    exact hI.stateO hk hf (by omega) (by omega) (hrl.out.below hb4).1 H0.out.sizes (by omega) (Nat.zero_le _) rn
  have hB : Hid (Below w1.heap.size w1 w4) := hb13.out.trans ((hba.out.trans hg.out.2).mono hb13.out.size)
  go_wp2_with fail
  refine HST.out.mono ?_
  rintro e w5 ⟨rfl, q, rfl⟩
  go_wp2_with fail
  go_ret
  exact ⟨rfl, below_drewN hB.out q⟩

end Go.Proofs.Qxb6003641a
