import Derived.Test.Qxb6003641aHoldStep
namespace Go.Proofs.Qxb6003641a
open Go.RowKit

section
variable {w : World} {base T : Nat} {m : Option Nat} {kn fr : List ByteArray} {B : ByteArray → Nat}

/-- 'zzRemoveAt(free, -1)': a fresh copy. -/
theorem copy_any {v : Value} {l : List ByteArray} (h : OwS w base v l) (hl : l.length ≤ 1000000) :
    Calls Try.prog 17 #[v, .int .i64 (-1)] w fun e w' => ∃ v', e = .returned v' ∧ Hid (OwS w' w.heap.size v' l) ∧ Hid (Below w.heap.size w w') := by
  obtain ⟨a, c, hv, hr⟩ := h.row
  rw [hv]
  refine (removeAt_any a l.length c l (-1) w hr (by omega)).mono fun e w' ⟨v', l', h1, h2, h3, h4⟩ => ?_
  exact ⟨v', h2, by rw [← remTo_all l, ← h1.out]; exact h3, h4⟩

def FreePost (w0 : World) (base T : Nat) (m : Option Nat) (kn fr : List ByteArray) (B : ByteArray → Nat) (s : ByteArray) (kv fv : Value) (w' : World) : Prop :=
  Inv w' base T m kn (freed kn fr s) B ∧ OwS w' base kv kn ∧ OwS w' base fv (freed kn fr s) ∧ Sep kv fv ∧ Below base w0 w'

set_option maxHeartbeats 4000000 in
theorem Inv.freeStep (h : Inv w base T m kn fr B) {kv fv : Value} {s : ByteArray} (hz : s.size ≤ maxLen) (hbase : base ≤ w.heap.size) (hk : OwS w base kv kn) (hf : OwS w base fv fr) (hsep : Sep kv fv) (hkl : kn.length ≤ 1000000) (hfl : fr.length ≤ 1000000) :
    Calls Try.prog 20 #[.pointer (some ⟨T, 0, none⟩), kv, fv, .string s] w fun e w' => ∃ fv', e = .returned fv' ∧ Hid (FreePost w base T m kn fr B s kv fv' w') := by
  have HH := Lib.hid (zzfree_c T s w (fun w' => Hid (Inv w' base T m kn (freed kn fr s) B) ∧ Hid (Keeps base w w')) (Lib.hid ((h.free hz (by omega)).mono fun r w' ⟨h1, h2, h3⟩ => ⟨h1, h2, h3⟩)))
  go_enter Try.func20, Try.ntmps20
  go_wp2_with fail
  refine HH.out.mono ?_
  rintro e w1 ⟨rfl, hI, hK⟩
  have hk1 := Lib.hid (hk.keeps hK.out)
  have hf1 := Lib.hid (hf.keeps hK.out)
  obtain ⟨ka, kc, hkv, hkr⟩ := hk1.out.row
  obtain ⟨fa, fc, hfv, hfr⟩ := hf1.out.row
  have hB1 : base ≤ w1.heap.size := by have := hK.out.below.size; omega
  by_cases hsk : s ∈ kn
  · have HKI : Hid (Calls Try.prog 22 #[kv, .string s] w1 fun e w' => ∃ r : Nat, e = .returned (.int .i64 (r : Int)) ∧ w' = w1) := by show Calls _ _ _ _ _; rw [hkv]; exact index_in hkr (by omega) hsk
    by_cases hsf : s ∈ fr
    · have HFI : Hid (Calls Try.prog 22 #[fv, .string s] w1 fun e w' => ∃ r : Nat, e = .returned (.int .i64 (r : Int)) ∧ w' = w1) := by show Calls _ _ _ _ _; rw [hfv]; exact index_in hfr (by omega) hsf
      have hfe : freed kn fr s = fr := freed_free hsf
      clear hkv hfv hkr hfr
      go_wp2_with fail
      refine HKI.out.mono ?_
      rintro e w2 ⟨r, rfl, rfl⟩
      have hr1 : decide ((0 : Int) ≤ (r : Int)) = true := by simp
      go_wp2_with fail
      refine HFI.out.mono ?_
      rintro e w3 ⟨r2, rfl, rfl⟩
      have hr2 : decide ((r2 : Int) < 0) = false := by simp
      go_wp2_with fail
      go_ret
      exact ⟨_, rfl, hI.out, hk1.out, by rw [hfe]; exact hf1.out, hsep, hK.out.below⟩
    · have HFI : Hid (Calls Try.prog 22 #[fv, .string s] w1 fun e w' => e = .returned (.int .i64 (-1)) ∧ w' = w1) := by show Calls _ _ _ _ _; rw [hfv]; exact index_out hfr (by omega) hsf
      have hfe : freed kn fr s = fr ++ [s] := freed_add hsk hsf
      have HCP := Lib.hid (copy_any hf1.out hfl)
      have hfl1 : fr.length + 1 ≤ 1099511627776 := by omega
      clear hkv hfv hkr hfr
      go_wp2_with fail
      refine HKI.out.mono ?_
      rintro e w2 ⟨r, rfl, rfl⟩
      have hr1 : decide ((0 : Int) ≤ (r : Int)) = true := by simp
      go_wp2_with (go_at_call 22; refine HFI.out.mono ?_; rintro e w3 ⟨rfl, rfl⟩)
      refine HCP.out.mono ?_
      rintro e w4 ⟨v4, rfl, hv4, hb4⟩
      have hv4' := hv4.out
      have hs4 := hb4.out.size
      go_wp2_with (at_builtin; refine wpList_appS2 rfl _ _ rfl _ v4 fr rfl s hv4' rfl hfl1 hs4 ?_)
      intro v5 w5 hv5 hg5 hat5
      go_wp2_with fail
      go_ret
      have hsep4 : Sep v4 kv := fun g hg hg2 => by
        have h1 := (hv4.out.tag hg).1
        have h2 := (hk1.out.tag hg2).2.lt
        omega
      refine ⟨_, rfl, ?_, ?_, ?_, ?_, ?_⟩
      · exact (hI.out.below hb4.out).grown hg5.out (fun g hg => (hv4.out.tag hg).2)
      · exact (hk1.out.below hb4.out).grown hg5.out hsep4
      · rw [hfe]; exact hv5.out.mono (by omega)
      · intro g hg hg2
        have h2 := (hk1.out.tag hg).2.lt
        have h3 := (hv5.out.tag hg2).1
        omega
      · exact below_app (hK.out.below.trans (hb4.out.mono hB1)) (by omega) (hv4.out.mono hB1) hg5.out
  · have HKI : Hid (Calls Try.prog 22 #[kv, .string s] w1 fun e w' => e = .returned (.int .i64 (-1)) ∧ w' = w1) := by show Calls _ _ _ _ _; rw [hkv]; exact index_out hkr (by omega) hsk
    have hfe : freed kn fr s = fr := freed_new hsk
    clear hkv hfv hkr hfr
    go_wp2_with (go_at_call 22; refine HKI.out.mono ?_; rintro e w3 ⟨rfl, rfl⟩)
    go_ret
    exact ⟨_, rfl, hI.out, hk1.out, by rw [hfe]; exact hf1.out, hsep, hK.out.below⟩

end
end Go.Proofs.Qxb6003641a
