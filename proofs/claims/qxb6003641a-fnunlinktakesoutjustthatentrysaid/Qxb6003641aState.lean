import Derived.Test.Qxb6003641aPtr
namespace Go.Proofs.Qxb6003641a
open Go.RowKit

def adr (B : ByteArray → Nat) (o : Option ByteArray) : Option Addr := o.map fun s => ⟨B s, 0, none⟩
theorem ptr_adr (B : ByteArray → Nat) (o : Option ByteArray) : ptr (o.map B) = .pointer (adr B o) := by cases o <;> rfl

/-- Who stands ahead of place i. -/
def prv (fr : List ByteArray) (i : Nat) : Option ByteArray := if i = 0 then none else fr[i - 1]?

section
variable {w : World} {base T : Nat} {m : Option Nat} {kn fr : List ByteArray} {B : ByteArray → Nat}

theorem RowS.drewN {ao : Option Addr} {n : Nat} {ss : List ByteArray} (h : RowS w ao n ss) (q : Nat) : RowS (w.drewN q) ao n ss := h

set_option maxHeartbeats 4000000 in
/-- zzStateMatches says yes. -/
theorem Inv.state (h : Inv w base T m kn fr B) {ra ka fa : Option Addr} {rn rc kc fc kl fl : Nat} {rs : List ByteArray} {x : ByteArray} (hr : RowS w ra rn rs) (hrz : ∀ s ∈ rs, s.size ≤ maxLen) (hrn : rn ≤ 1048576) (hz : x.size ≤ maxLen) (hk : RowS w ka kl kn) (hf : RowS w fa fl fr) (hkl : kl ≤ 1048576) (hfl : fl ≤ 1048576) :
    Calls Try.prog 12 #[.pointer (some ⟨T, 0, none⟩), .slice ra rn rc, .string x, .slice ka kl kc, .slice fa fl fc] w fun e w' => e = .returned (.bool true) ∧ ∃ q, w' = w.drewN q := by
  have HI := Lib.hid h
  have HR := Lib.hid hr
  have HRZ := Lib.hid hrz
  have HZ := Lib.hid hz
  have HK := Lib.hid hk
  have HF := Lib.hid hf
  have hflI : (fl : Int) ≤ 1048576 := by omega
  have hrnI : (rn : Int) ≤ 1048576 := by omega
  have t1 := h.tok.c1
  rw [ptr_adr] at t1
  clear h hr hrz hz hk hf
  go_enter Try.func12, Try.ntmps12
  go_wp2_with (go_at_call 27; refine (oldest_c T _ _ t1).mono ?_; rintro e w1 ⟨rfl, rfl⟩)
  go_loopw [12, 13, 14] (fun e p i wr => ∃ (k q : Nat) (ev pv : Option Addr), k ≤ fl ∧ i = .int .i64 k ∧ e = .pointer ev ∧ p = .pointer pv ∧ Hid (ev = adr B fr[k]?) ∧ Hid (pv = adr B (prv fr k)) ∧ Hid (wr = w1.drewN q)) (fun _ _ i _ => fl + 1 - (intOf i).toNat)
  case atStart => exact ⟨0, 0, _, none, Nat.zero_le _, rfl, rfl, rfl, by show _ = _; rw [List.head?_eq_getElem?], rfl, rfl⟩
  case round =>
    obtain ⟨k, q, ev, pv, hkf, rfl, rfl, rfl, hev, hpv, hwr⟩ := hrel
    have hI : Inv wr base T m kn fr B := by rw [hwr.out]; exact HI.out.drewN q
    have hFr : RowS wr fa fl fr := by rw [hwr.out]; exact HF.out.drewN q
    have hlen : fr.length = fl := hFr.1
    have neq := neqSame
    by_cases hlt : k < fl
    · obtain ⟨b, off, hao, hc⟩ := hFr.2 k hlt
      obtain ⟨s, hs⟩ : ∃ s, s = strAt fr k := ⟨_, rfl⟩
      rw [← hs] at hc
      have hat : fr[k]? = some s := by rw [hs]; exact strAt_some fr k (by omega)
      have hsf : s ∈ fr := List.mem_of_getElem? hat
      have hsk := hI.sub s hsf
      have E := hI.ent s hsk
      have hev' : ev = some ⟨B s, 0, none⟩ := by rw [hev.out, hat]; rfl
      have hlk := hI.map.found false (hI.siz s hsk) hsk
      have c0 := E.c0
      have c3 : wr.cell? ⟨B s, 3, none⟩ = some (.bool true) := by rw [E.c3, inB_yes hsf]
      have c4 : wr.cell? ⟨B s, 4, none⟩ = some (.pointer pv) := by rw [E.c4, ptr_adr, prevOf_at hI.nod hat, hpv.out]; rfl
      have c5 : wr.cell? ⟨B s, 5, none⟩ = some (.pointer (adr B fr[k + 1]?)) := by rw [E.c5, ptr_adr, nextOf_at hI.nod hat]
      have t0 := hI.tok.c0
      have hki : (k : Int) < (fl : Int) := by omega
      have hki2 : (k : Int) ≤ (fl : Int) := by omega
      have hki3 : ((k : Int) == (fl : Int)) = false := by simp; omega
      have hss := eqS s
      have HPV := Lib.hid (show adr B (some s) = adr B (prv fr (k + 1)) by unfold prv; rw [if_neg (by omega), Nat.add_sub_cancel, hat])
      obtain ⟨nx, hnx⟩ : ∃ nx, nx = adr B fr[k + 1]? := ⟨_, rfl⟩
      rw [← hnx] at c5
      have HNX := Lib.hid hnx
      have hlk' : ∀ z, (Instr.lookup 29 (.map m) (.string s) false).run Try.prog (wr.drewN z) = .ok (.pointer (some ⟨B s, 0, none⟩)) (wr.drewN z) := fun z => (hI.drewN z).map.found false (hI.siz s hsk) hsk
      obtain ⟨bs, hbs⟩ : ∃ bs, bs = B s := ⟨_, rfl⟩
      have HBS := Lib.hid hbs
      rw [← hbs] at hev' c0 c3 c4 c5 hlk'
      subst hev'
      subst hao
      clear hev hpv hlk E hI hFr hs hat hsf hsk hnx hbs
      go_wp2_with fail
      go_quiet (first | (go_at_call 28; exact Calls.quiet_of_same (resource_c bs _ _ c0)) | (go_at_call 24; exact Calls.quiet_of_same (isFree_c bs _ _ c3)) | fail)
      go_wp2_with (first | (go_at_call 25; refine (older_c bs _ _ (by exact c4)).mono ?_; rintro e w2 ⟨rfl, rfl⟩) | (go_at_call 15; refine (look_c T m s _ _ (by exact t0) (by exact hlk' _)).mono ?_; rintro e w2 ⟨rfl, rfl⟩) | (go_at_call 26; refine (newer_c bs _ _ (by exact c5)).mono ?_; rintro e w2 ⟨rfl, rfl⟩))
      go_roundw
      case rel => exact ⟨k + 1, q + nq, nx, some ⟨bs, 0, none⟩, by omega, by go_num, rfl, rfl, HNX, by show _ = _; rw [← HPV.out, HBS.out]; rfl, by show _ = _; rw [hwr.out, World.drewN_drewN]⟩
      case measure => simp [intOf]; omega
    · obtain rfl : k = fl := by omega
      have hev' : ev = none := by rw [hev.out, List.getElem?_eq_none (by omega)]; rfl
      subst hev'
      have t2 : wr.cell? ⟨T, 2, none⟩ = some (.pointer pv) := by
        rw [hI.tok.c2, ptr_adr, hpv.out, List.getLast?_eq_getElem?, hlen]
        unfold prv
        by_cases h0 : k = 0
        · rw [if_pos h0, List.getElem?_eq_none (by omega)]
        · rw [if_neg h0]
      have t3 := hI.tok.c3
      rw [hlen] at t3
      have hkk : ((k : Int) == (k : Int)) = true := by simp
      have hkn : ((k : Int) != (k : Int)) = false := by simp
      have HKw : Hid (RowS wr ka kl kn) := by show RowS _ _ _ _; rw [hwr.out]; exact HK.out.drewN q
      have HRw : Hid (RowS wr ra rn rs) := by show RowS _ _ _ _; rw [hwr.out]; exact HR.out.drewN q
      have HFw := Lib.hid hFr
      have HIw := Lib.hid hI
      clear hev hpv hI hFr hlen
      go_wp2_with (first | (go_at_call 29; refine (newest_c T _ _ t2).mono ?_; rintro e w2 ⟨rfl, rfl⟩) | (go_at_call 30; refine (frees_c T _ _ t3).mono ?_; rintro e w2 ⟨rfl, rfl⟩))
      go_loop [15] (fun i => ∃ j : Nat, j ≤ rn ∧ i = .int .i64 j) (fun i => rn - (intOf i).toNat)
      case atStart => exact ⟨0, Nat.zero_le _, rfl⟩
      case round =>
        obtain ⟨j, hj, rfl⟩ := hrel
        by_cases hjr : (j : Int) < (rn : Int)
        · obtain ⟨b, off, hao, hc⟩ := HRw.out.2 j (by omega)
          subst hao
          obtain ⟨s, hs⟩ : ∃ s, s = strAt rs j := ⟨_, rfl⟩
          rw [← hs] at hc
          have hsz : s.size ≤ maxLen := HRZ.out s (by rw [hs]; exact strAt_mem rs j (by have := HRw.out.1; omega))
          have HE := Lib.hid (HIw.out.entry (kc := kc) (fc := fc) hsz HKw.out HFw.out hkl hfl)
          clear hs hsz
          go_wp2_with (go_at_call 31; refine HE.out.mono ?_; rintro e w3 ⟨rfl, rfl⟩)
          go_round
          case rel => exact ⟨j + 1, by omega, by go_num⟩
          case measure => simp [intOf]; omega
        · have HE := Lib.hid (HIw.out.entry (kc := kc) (fc := fc) HZ.out HKw.out HFw.out hkl hfl)
          go_wp2_with (go_at_call 31; refine HE.out.mono ?_; rintro e w3 ⟨rfl, rfl⟩)
          go_ret
          exact ⟨rfl, q, hwr.out⟩

end
end Go.Proofs.Qxb6003641a
