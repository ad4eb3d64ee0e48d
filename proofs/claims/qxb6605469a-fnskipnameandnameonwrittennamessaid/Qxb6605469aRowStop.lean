import Derived.Test.Qxb6605469aStop
import Derived.ProofKit
import Derived.OpenShut
import Derived.ShutString
import Derived.ChangeOld
import Derived.Below
namespace Go.Proofs.Qxb6605469a
open Go.ChangeShapes Go.WideShapes Go.ChangeAt Go.RowKit
open Go.ChangeMaps (open_string shut_string)
set_option linter.unusedVariables false

theorem own : ownKnob Try.prog.godebug = none := by kernel_rfl
theorem laidOut : laidOutB Try.prog = true := by kernel_rfl

/-- The bytes that a row of numbers holds. -/
theorem arg_of_ints {W : World} {x : Addr} {len cap : Nat} {zs : List Int} (hl : len ≤ cap) (hz : zs.length = cap) (hcell : ∀ i, i < zs.length → W.cell? (x.add i) = some (.int .u8 (zs.getD i 0))) (hwz : ∀ n ∈ zs, (Lit.int .u8 n).wf = true) :
    ∃ l, ArgRow W (some x) len l := by
  refine ⟨(zs.take len).map fun z => z.toNat.toUInt8, by simp; omega, (fun h => by cases h), fun ad had j hj => ?_⟩
  cases had
  rw [hcell j (by omega)]
  have hw := hwz (zs.getD j 0) (by rw [List.getD_eq_getElem?_getD, List.getElem?_eq_getElem (by omega)]; simp)
  have hb := bounds_u8 hw
  have e : byteAt ((zs.take len).map fun z => z.toNat.toUInt8) j = zs.getD j 0 := by
    have h1 : ((zs.take len).map fun z => z.toNat.toUInt8)[j]? = some ((zs.getD j 0).toNat.toUInt8) := by
      rw [List.getElem?_map, List.getElem?_take, if_pos hj, List.getD_eq_getElem?_getD, List.getElem?_eq_getElem (by omega)]
      simp
    unfold byteAt
    rw [List.getD_eq_getElem?_getD, h1]
    simp only [Option.getD_some]
    have h2 : (zs.getD j 0).toNat < 256 := by omega
    rw [show ((zs.getD j 0).toNat.toUInt8).toNat = (zs.getD j 0).toNat from by simpa using Nat.mod_eq_of_lt h2]
    omega
  rw [e]

/-- A byte slice among the arguments, opened. -/
theorem open_bytes {H : Type} {enc : TypeId × Value → H} {W : World} {a : Option Addr} {len cap : Nat} {d : DataW H} {p : List MemPlace} (h : DataW.Trod enc Try.prog W 0 (fun _ => true) true 23 (.slice a len cap) d p) : ∃ l, ArgRow W a len l ∧ len ≤ maxLen := by
  obtain ⟨fuel, hf⟩ := h
  rcases open_ints Try.underlying23 Try.underlying5 (by kernel_rfl) hf with ⟨hcs, _⟩ | ⟨x, l, c, zs, hcs, _, hl, hm, hz, _, hcell, hwz⟩
  · simp [Value.cells] at hcs
    obtain ⟨rfl, rfl, rfl⟩ := hcs
    exact ⟨[], ⟨rfl, fun _ => rfl, fun ad h => by cases h⟩, Nat.zero_le _⟩
  · simp [Value.cells] at hcs
    obtain ⟨rfl, rfl, rfl⟩ := hcs
    obtain ⟨l, hl'⟩ := arg_of_ints hl (by simpa using hz) hcell hwz
    exact ⟨l, hl', by omega⟩

theorem law7 (ao : Option Addr) (n c : Nat) (m : List UInt8) (x : Int) (w : World) (harg : ArgRow w ao n m) (hn : n ≤ maxLen) (hx : x ≤ 9223372036854775807) :
    Calls Try.prog 7 #[.slice ao n c, .int .i64 x] w fun e w' => e = .returned (.bool true) ∧ Below w.heap.size w w' := by
  by_cases h : 1048576 < n ∨ (n ≤ 1048576 ∧ x < 0)
  · exact (law7_early ao n c x w hn h).mono fun e w' ⟨h1, h2⟩ => ⟨h1, by rw [h2]; exact Below.refl _ _⟩
  · obtain ⟨p, rfl⟩ : ∃ p : Nat, x = (p : Int) := ⟨x.toNat, by omega⟩
    exact law7_main ao n c m p w harg (by omega) hx

set_option maxRecDepth 100000 in
theorem liftedStop (os : Os) (started : os.Started) (H : Type) (enc : TypeId × Value → H) :
    ReturnsInHanded {} Try.checked os 7 .any (Rows.fnReaderNameStopTableSpec.pre6 enc Try.prog Try.f7 Rows.fnReaderNameStopTableRow.domain false) (Rows.fnReaderNameStopTableSpec.post enc Try.prog Try.f7 false true false false) := by
  refine returnsInHanded_of_change (C := Try.checked) own started (by kernel_rfl) Try.func7
    (ChangeSpec.witness6 (enc := enc) (C := Try.checked) false ⟨#[], #[.slice none 0 0, .int .i64 0], []⟩ 8 (by kernel_rfl) (by kernel_rfl) (by kernel_rfl) (by kernel_rfl)) ?_
  intro W base args ds gs before hval0 hW hcnd _
  have hval : ∀ (j : Nat) t v, Try.f7.params[j]? = some t → args[j]? = some v → Value.okWide Try.prog W .any base t v := hval0
  have hW' := hW
  obtain ⟨p, q, hA0, hV, rfl, hfz, hnd⟩ := hW
  have hA : DataW.TrodAll enc Try.prog W 0 (fun _ => true) true Try.f7.params.toList args.toList ds p := hA0
  rw [Try.params7] at hA hval
  obtain ⟨v0, vs0, d0, ds0, p0, q0, hargs, rfl, rfl, h0, r0⟩ := trodAll_cons hA
  obtain ⟨v1, vs1, d1, ds1, p1, q1, rfl, rfl, rfl, h1, r1⟩ := trodAll_cons r0
  obtain ⟨rfl, rfl, rfl⟩ := trodAll_nil r1
  obtain rfl : args = #[v0, v1] := by cases args; simp_all
  obtain ⟨rfl, rfl⟩ := trodVars_none hV
  obtain ⟨a0, len0, cap0, rfl⟩ := okWide_slice Try.underlying23 (hval 0 23 v0 rfl rfl)
  have k0 := h0
  have lt0 : ∀ x ∈ p0, x.block < W.heap.size := by obtain ⟨m, hm⟩ := k0; exact DataW.trod_lt m _ _ _ hm
  obtain ⟨z0, w0, hlen⟩ := open_bytes h0
  obtain ⟨a1, rfl, rfl, rfl, w1⟩ := open_int Try.underlying3 (hval 1 3 v1 rfl rfl) h1
  clear hA0 hval0
  refine (law7 a0 len0 cap0 z0 a1 W w0 hlen (bounds_i64 w1).2).mono fun e W' ⟨he, bel⟩ => ?_
  subst he
  exact ⟨_, rfl, _, _, _, [], _, [], hW', trodAll_mk1 (shut_bool Try.underlying4 _), (trodAll_cons_mk (Below.trod laidOut (by kernel_rfl) (of_decide_eq_true (by kernel_rfl)) k0 bel lt0) (trodAll_cons_mk (shut_int Try.underlying3 w1) trodAll_mk0)), rfl, bel.frame _, fun h => by cases h⟩

theorem overStop : Rows.fnReaderNameStopTableRow.holds Try.pinned (OpenSpec.ofChange Rows.fnReaderNameStopTableSpec) :=
  OpenClaim.holds_of_wide 7 Try.f7 rfl rfl rfl rfl rfl rfl rfl ⟨rfl, rfl, rfl, rfl, rfl⟩ rfl rfl rfl rfl rfl (by kernel_rfl) Try.func7 (by kernel_rfl)
    (of_decide_eq_true (by kernel_rfl)) (by unfold Func.isWrapper; first | (rw [if_pos (by decide +kernel)]; kernel_rfl) | (rw [if_neg (by decide +kernel)]; exact ⟨rfl, rfl⟩))
    (fun os started H enc _ => liftedStop os started H enc)

theorem provedStop : Rows.FnReaderNameStopTableSaid := overStop
end Go.Proofs.Qxb6605469a
