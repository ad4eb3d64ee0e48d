import Derived.Test.Qxb6003641aStep
namespace Go.Proofs.Qxb6003641a
open Go.RowKit

section
variable {w : World} {base T : Nat} {m : Option Nat} {kn fr : List ByteArray} {B : ByteArray → Nat}

/-- What a hold step leaves. -/
def HoldPost (w0 : World) (base T : Nat) (kn fr : List ByteArray) (B : ByteArray → Nat) (s : ByteArray) (kv fv : Value) (w' : World) : Prop :=
  ∃ m' B', Inv w' base T m' (held kn s) (del fr s) B' ∧ OwS w' base kv (held kn s) ∧ OwS w' base fv (del fr s) ∧ Sep kv fv ∧ Below base w0 w' ∧ (s ∈ kn → B' s = B s)

set_option maxHeartbeats 4000000 in
theorem Inv.holdStep (h : Inv w base T m kn fr B) {kv fv : Value} {s : ByteArray} (hz : s.size ≤ maxLen) (hbase : base ≤ w.heap.size) (hk : OwS w base kv kn) (hf : OwS w base fv fr) (hsep : Sep kv fv) (hkl : kn.length ≤ 1000000) (hfl : fr.length ≤ 1000000) :
    Calls Try.prog 14 #[.pointer (some ⟨T, 0, none⟩), kv, fv, .string s] w fun e w' => ∃ kv' fv', e = .returned (.tuple #[kv', fv', .bool true]) ∧ Hid (HoldPost w base T kn fr B s kv' fv' w') := by
  have HH := Lib.hid (zzhold_c T s w (fun b w' => ∃ m' B', b = B' s ∧ Inv w' base T m' (held kn s) (del fr s) B' ∧ Keeps base w w' ∧ (s ∈ kn → B' s = B s)) (Lib.hid ((h.hold hz (by omega) hbase).mono fun r w' ⟨m', B', h1, h2, h3, h4⟩ => ⟨B' s, h1, m', B', rfl, h2, h3, h4⟩)))
  have hss := eqS s
  have neq := neqSame
  go_enter Try.func14, Try.ntmps14
  go_wp2_with fail
  refine HH.out.mono ?_
  rintro e w1 ⟨b, rfl, m', B', hb, hI, hK, hsame⟩
  have hsk1 : s ∈ held kn s := mem_held kn s
  have hsf1 : s ∉ del fr s := fun x => (mem_del.1 x).2 rfl
  have E := hI.ent s hsk1
  have c0 := E.c0
  have c1 := E.c1
  have c3 : w1.cell? ⟨B' s, 3, none⟩ = some (.bool false) := by rw [E.c3, inB_no hsf1]
  have c4 : w1.cell? ⟨B' s, 4, none⟩ = some (.pointer none) := by rw [E.c4, prevOf_not hsf1]; rfl
  have c5 : w1.cell? ⟨B' s, 5, none⟩ = some (.pointer none) := by rw [E.c5, nextOf_not hsf1]; rfl
  have hlk : (Instr.lookup 29 (.map m') (.string s) false).run Try.prog w1 = .ok (.pointer (some ⟨B' s, 0, none⟩)) w1 := hI.map.found false hz hsk1
  have t0 := hI.tok.c0
  rw [← hb] at c0 c1 c3 c4 c5 hlk
  have HSAME := Lib.hid hsame
  clear hb hsame
  have hk1 := Lib.hid (hk.keeps hK)
  have hf1 := Lib.hid (hf.keeps hK)
  obtain ⟨ka, kc, hkv, hkr⟩ := hk1.out.row
  obtain ⟨fa, fc, hfv, hfr⟩ := hf1.out.row
  have HKR := Lib.hid hkr
  have HFR := Lib.hid hfr
  have HKV := Lib.hid hkv
  have HFV := Lib.hid hfv
  have HI := Lib.hid hI
  have HSF := Lib.hid hsf1
  have HSK := Lib.hid hsk1
  have HKP := Lib.hid hK
  clear E hkr hfr hI hkv hfv hsf1 hsk1 hK
  go_wp2_with (first | (go_at_call 28; refine (resource_c b _ _ c0).mono ?_; rintro e w2 ⟨rfl, rfl⟩) | (go_at_call 32; refine (last_c b _ _ c1).mono ?_; rintro e w2 ⟨rfl, rfl⟩) | (go_at_call 24; refine (isFree_c b _ _ c3).mono ?_; rintro e w2 ⟨rfl, rfl⟩) | (go_at_call 25; refine (older_c b _ _ c4).mono ?_; rintro e w2 ⟨rfl, rfl⟩) | (go_at_call 26; refine (newer_c b _ _ c5).mono ?_; rintro e w2 ⟨rfl, rfl⟩) | (go_at_call 15; refine (look_c T m' s _ _ t0 hlk).mono ?_; rintro e w2 ⟨rfl, rfl⟩))
  have hIw := HI.out
  by_cases hsk : s ∈ kn
  · have hheld : held kn s = kn := held_in hsk
    have hki : Calls Try.prog 22 #[kv, .string s] w2 fun e w' => ∃ r : Nat, e = .returned (.int .i64 (r : Int)) ∧ w' = w2 := by rw [HKV.out]; exact index_in HKR.out (by omega) hsk
    have HKI := Lib.hid hki
    clear hki hIw
    refine HKI.out.mono ?_
    rintro e w3 ⟨r, rfl, rfl⟩
    have hr1 : decide ((r : Int) < 0) = false := by simp
    by_cases hsf : s ∈ fr
    · have hfi : Calls Try.prog 22 #[fv, .string s] w3 fun e w' => ∃ k : Nat, k < fr.length ∧ Hid (strAt fr k = s) ∧ e = .returned (.int .i64 (k : Int)) ∧ w' = w3 := by
        rw [HFV.out]
        refine (index_any fa fr.length fc fr s w3 HFR.out (by omega)).mono fun e w' ⟨r, h, he, hw⟩ => ?_
        rcases h.out with ⟨h1, _⟩ | ⟨k, h1, h2, h3⟩
        · exact absurd hsf h1
        · exact ⟨k, h1, h2, by rw [he, h3], hw⟩
      have HFI := Lib.hid hfi
      clear hfi
      go_wp2_with fail
      refine HFI.out.mono ?_
      rintro e w4 ⟨k, hkl2, hks, rfl, rfl⟩
      have hr2 : decide ((0 : Int) ≤ (k : Int)) = true := by simp
      have hrm : Calls Try.prog 17 #[fv, .int .i64 (k : Int)] w4 fun e w' => ∃ v, e = .returned v ∧ Hid (OwS w' w4.heap.size v (del fr s)) ∧ Below w4.heap.size w4 w' := by
        rw [HFV.out]
        refine (removeAt_any fa fr.length fc fr k w4 HFR.out (by omega)).mono fun e w' ⟨v, l, h1, h2, h3, h4⟩ => ?_
        exact ⟨v, h2, by rw [← remTo_del h.nod hkl2 hks.out, ← h1.out]; exact h3, h4⟩
      have HRM := Lib.hid hrm
      clear hrm
      go_wp2_with fail
      refine HRM.out.mono ?_
      rintro e w5 ⟨v, rfl, hv, hb5⟩
      go_wp2_with fail
      go_ret3
      refine ⟨_, _, rfl, _, _, HI.out.below hb5, ?_, ?_, ?_, ?_, HSAME.out⟩
      · rw [hheld]; exact hk1.out.below hb5
      · exact hv.out.mono (by have := HKP.out.below.size; omega)
      · intro g hg hg2
        have h1 := (hk1.out.tag hg).2.lt
        have h2 := (hv.out.tag hg2).1
        omega
      · exact HKP.out.below.trans (hb5.mono (by have := HKP.out.below.size; omega))
    · have hfi : Calls Try.prog 22 #[fv, .string s] w3 fun e w' => e = .returned (.int .i64 (-1)) ∧ w' = w3 := by rw [HFV.out]; exact index_out HFR.out (by omega) hsf
      have HFI := Lib.hid hfi
      clear hfi
      go_wp2_with (go_at_call 22; refine HFI.out.mono ?_; rintro e w4 ⟨rfl, rfl⟩)
      go_ret3
      exact ⟨_, _, rfl, _, _, HI.out, by rw [hheld]; exact hk1.out, by rw [del_not hsf]; exact hf1.out, hsep, HKP.out.below, HSAME.out⟩
  · have hheld : held kn s = kn ++ [s] := held_out hsk
    have hsf : s ∉ fr := fun x => hsk (h.sub s x)
    have hki : Calls Try.prog 22 #[kv, .string s] w2 fun e w' => e = .returned (.int .i64 (-1)) ∧ w' = w2 := by rw [HKV.out]; exact index_out HKR.out (by omega) hsk
    have HKI := Lib.hid hki
    have hB2 : base ≤ w2.heap.size := by have := HKP.out.below.size; omega
    have hkw := hk1.out
    have hk1l : kn.length + 1 ≤ 1099511627776 := by omega
    clear hki hIw
    refine HKI.out.mono ?_
    rintro e w3 ⟨rfl, rfl⟩
    go_wp2_with (at_builtin; refine wpList_appS2 rfl _ _ rfl base kv kn rfl s hkw rfl hk1l hB2 ?_)
    intro kv2 w4 hkv2 hg4 hat4
    have hf4 : OwS w4 base fv fr := hf1.out.grown hg4.out hsep
    obtain ⟨fa4, fc4, hfv4, hfr4⟩ := hf4.row
    have hfi : Calls Try.prog 22 #[fv, .string s] w4 fun e w' => e = .returned (.int .i64 (-1)) ∧ w' = w4 := by rw [hfv4]; exact index_out hfr4 (by omega) hsf
    have HFI := Lib.hid hfi
    have HF4 := Lib.hid hf4
    have hI4 := Lib.hid (HI.out.grown hg4.out (fun g hg => (hkw.tag hg).2))
    have hB4 := Lib.hid (below_app HKP.out.below hB2 hkw hg4.out)
    have hSep4 : Hid (Sep kv2 fv) := fun g hg hg2 => by
      rcases hat4.out g hg with h1 | h1
      · exact hsep g h1 hg2
      · have := (hf1.out.tag hg2).2.lt; omega
    clear hfi hf4 hfv4 hfr4
    go_wp2_with (go_at_call 22; refine HFI.out.mono ?_; rintro e w5 ⟨rfl, rfl⟩)
    go_ret3
    exact ⟨_, _, rfl, _, _, hI4.out, by rw [hheld]; exact hkv2.out, by rw [del_not hsf]; exact HF4.out, hSep4.out, hB4.out, HSAME.out⟩

end
end Go.Proofs.Qxb6003641a
