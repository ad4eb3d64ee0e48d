import Derived.Test.Qxb6605469aRowW
import Derived.Test.Qxb6605469aLawS
import Derived.Test.Qxb6605469aLawS2
namespace Go.Proofs.Qxb6605469a
open Go.ChangeShapes Go.WideShapes Go.ChangeAt Go.RowKit
set_option linter.unusedVariables false

theorem asByte {x : Int} (h : (Lit.int .u8 x).wf = true) : ∃ b : UInt8, x = (b.toNat : Int) := by
  have hx : 0 ≤ x ∧ x < 256 := by
    have h1 : IntKind.u8.min = 0 := by decide
    have h2 : IntKind.u8.max = 255 := by decide
    simp [Lit.wf, h1, h2] at h
    omega
  refine ⟨UInt8.ofNat x.toNat, ?_⟩
  rw [UInt8.toNat_ofNat_of_lt' (by show x.toNat < 256; omega)]
  omega

set_option maxRecDepth 100000 in
theorem liftedS (os : Os) (started : os.Started) (H : Type) (enc : TypeId × Value → H) :
    ReturnsInHanded {} Try.checked os 6 .any (Rows.fnSkipNameAndNameOnWrittenNamesSpec.pre6 enc Try.prog Try.f6 Rows.fnSkipNameAndNameOnWrittenNamesRow.domain false) (Rows.fnSkipNameAndNameOnWrittenNamesSpec.post enc Try.prog Try.f6 false true false false) := by
  refine returnsInHanded_of_change (C := Try.checked) own started (by kernel_rfl) Try.func6
    (ChangeSpec.witness6 (enc := enc) (C := Try.checked) false ⟨#[], #[.slice none 0 0, .slice none 0 0, .bool false, .int .u8 0, .int .u8 0, .slice none 0 0], []⟩ 8 (by kernel_rfl) (by kernel_rfl) (by kernel_rfl) (by kernel_rfl)) ?_
  intro W base args ds gs before hval0 hW hcnd _
  have hval : ∀ (j : Nat) t v, Try.f6.params[j]? = some t → args[j]? = some v → Value.okWide Try.prog W .any base t v := hval0
  have hW' := hW
  obtain ⟨p, q, hA0, hV, rfl, hfz, hnd⟩ := hW
  have hA : DataW.TrodAll enc Try.prog W 0 (fun _ => true) true Try.f6.params.toList args.toList ds p := hA0
  rw [Try.params6] at hA hval
  obtain ⟨v0, vs0, d0, ds0, p0, q0, hargs, rfl, rfl, h0, r0⟩ := trodAll_cons hA
  obtain ⟨v1, vs1, d1, ds1, p1, q1, rfl, rfl, rfl, h1, r1⟩ := trodAll_cons r0
  obtain ⟨v3, vs3, d3, ds3, p3, q3, rfl, rfl, rfl, h3, r3⟩ := trodAll_cons r1
  obtain ⟨v4, vs4, d4, ds4, p4, q4, rfl, rfl, rfl, h4, r4⟩ := trodAll_cons r3
  obtain ⟨v5, vs5, d5, ds5, p5, q5, rfl, rfl, rfl, h5, r5⟩ := trodAll_cons r4
  obtain ⟨v2, vs2, d2, ds2, p2, q2, rfl, rfl, rfl, h2, r2⟩ := trodAll_cons r5
  obtain ⟨rfl, rfl, rfl⟩ := trodAll_nil r2
  obtain rfl : args = #[v0, v1, v3, v4, v5, v2] := by cases args; simp_all
  obtain ⟨rfl, rfl⟩ := trodVars_none hV
  obtain ⟨a0, len0, cap0, rfl⟩ := okWide_slice Try.underlying23 (hval 0 23 v0 rfl rfl)
  obtain ⟨a1, len1, cap1, rfl⟩ := okWide_slice Try.underlying24 (hval 1 24 v1 rfl rfl)
  obtain ⟨a2, len2, cap2, rfl⟩ := okWide_slice Try.underlying23 (hval 5 23 v2 rfl rfl)
  have lt0 : ∀ x ∈ p0, x.block < W.heap.size := by obtain ⟨m, hm⟩ := h0; exact DataW.trod_lt m _ _ _ hm
  have lt1 : ∀ x ∈ p1, x.block < W.heap.size := by obtain ⟨m, hm⟩ := h1; exact DataW.trod_lt m _ _ _ hm
  have lt2 : ∀ x ∈ p2, x.block < W.heap.size := by obtain ⟨m, hm⟩ := h2; exact DataW.trod_lt m _ _ _ hm
  have lt3 : ∀ x ∈ p3, x.block < W.heap.size := by obtain ⟨m, hm⟩ := h3; exact DataW.trod_lt m _ _ _ hm
  have lt4 : ∀ x ∈ p4, x.block < W.heap.size := by obtain ⟨m, hm⟩ := h4; exact DataW.trod_lt m _ _ _ hm
  have lt5 : ∀ x ∈ p5, x.block < W.heap.size := by obtain ⟨m, hm⟩ := h5; exact DataW.trod_lt m _ _ _ hm
  obtain ⟨z0, w0, l0⟩ := open_bytes h0
  obtain ⟨z1, w1, l1⟩ := open_strs h1
  obtain ⟨z2, w2, l2⟩ := open_bytes h2
  have h3' := h3
  have h4' := h4
  have h5' := h5
  obtain ⟨pt, rfl, _, _⟩ := open_bool Try.underlying4 (hval 2 4 v3 rfl rfl) h3'
  obtain ⟨x4, rfl, _, _, wf4⟩ := open_int Try.underlying5 (hval 3 5 v4 rfl rfl) h4'
  obtain ⟨x5, rfl, _, _, wf5⟩ := open_int Try.underlying5 (hval 4 5 v5 rfl rfl) h5'
  obtain ⟨hi, rfl⟩ := asByte wf4
  obtain ⟨lo, rfl⟩ := asByte wf5
  clear hA0 hval0
  have hlaw : Calls Try.prog 6 #[.slice a0 len0 cap0, .slice a1 len1 cap1, .bool pt, .int .u8 (hi.toNat : Int), .int .u8 (lo.toNat : Int), .slice a2 len2 cap2] W fun e w' => e = .returned (.bool true) ∧ Below W.heap.size W w' := by
    cases pt with
    | true => exact law6_ptr a0 a1 a2 len0 cap0 len1 cap1 len2 cap2 hi lo z0 z2 z1 W w0 w1 w2 l0 l1 l2
    | false => exact law6_zero a0 a1 a2 len0 cap0 len1 cap1 len2 cap2 hi lo z0 z2 z1 W w0 w1 w2 l0 l1 l2
  refine hlaw.mono fun e W' ⟨he, bel⟩ => ?_
  subst he
  exact ⟨_, rfl, _, _, _, [], _, [], hW', trodAll_mk1 (shut_bool Try.underlying4 _), (trodAll_cons_mk (Below.trod laidOut (by kernel_rfl) (of_decide_eq_true (by kernel_rfl)) h0 bel lt0) (trodAll_cons_mk (Below.trod laidOut (by kernel_rfl) (of_decide_eq_true (by kernel_rfl)) h1 bel lt1) (trodAll_cons_mk (Below.trod laidOut (by kernel_rfl) (of_decide_eq_true (by kernel_rfl)) h3 bel lt3) (trodAll_cons_mk (Below.trod laidOut (by kernel_rfl) (of_decide_eq_true (by kernel_rfl)) h4 bel lt4) (trodAll_cons_mk (Below.trod laidOut (by kernel_rfl) (of_decide_eq_true (by kernel_rfl)) h5 bel lt5) (trodAll_cons_mk (Below.trod laidOut (by kernel_rfl) (of_decide_eq_true (by kernel_rfl)) h2 bel lt2) trodAll_mk0)))))), rfl, bel.frame _, fun h => by cases h⟩

theorem overS : Rows.fnSkipNameAndNameOnWrittenNamesRow.holds Try.pinned (OpenSpec.ofChange Rows.fnSkipNameAndNameOnWrittenNamesSpec) :=
  OpenClaim.holds_of_wide 6 Try.f6 rfl rfl rfl rfl rfl rfl rfl ⟨rfl, rfl, rfl, rfl, rfl⟩ rfl rfl rfl rfl rfl (by kernel_rfl) Try.func6 (by kernel_rfl)
    (of_decide_eq_true (by kernel_rfl)) (by unfold Func.isWrapper; first | (rw [if_pos (by decide +kernel)]; kernel_rfl) | (rw [if_neg (by decide +kernel)]; exact ⟨rfl, rfl⟩))
    (fun os started H enc _ => liftedS os started H enc)

theorem provedSkip : Rows.FnSkipNameAndNameOnWrittenNamesSaid := overS
end Go.Proofs.Qxb6605469a
