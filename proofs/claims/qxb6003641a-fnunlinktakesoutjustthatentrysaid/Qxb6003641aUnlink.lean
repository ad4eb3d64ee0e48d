import Derived.Test.Qxb6003641aCore
namespace Go.Proofs.Qxb6003641a
open Go.RowKit

set_option maxHeartbeats 1000000 in
theorem unlink_nn (T e : Nat) (x1 x2 : Value) (k : Int) (w : World) (hTe : T ≠ e) (eo : w.cell? ⟨e, 4, none⟩ = some (.pointer none)) (en : w.cell? ⟨e, 5, none⟩ = some (.pointer none)) (ef : w.cell? ⟨e, 3, none⟩ = some (.bool true))
    (t1 : w.cell? ⟨T, 1, none⟩ = some x1) (t2 : w.cell? ⟨T, 2, none⟩ = some x2) (t3 : w.cell? ⟨T, 3, none⟩ = some (.int .i64 k)) (hk : 1 ≤ k) (hk2 : k ≤ 1048576)
    (fT : ∀ i, w.frozen? ⟨T, i, none⟩ = false) (fe : ∀ i, w.frozen? ⟨e, i, none⟩ = false) :
    Calls Try.prog 35 #[.pointer (some ⟨T, 0, none⟩), .pointer (some ⟨e, 0, none⟩)] w fun r w' => r = .returned (.tuple #[]) ∧ ∃ q, w' = (unl w T e none none k).drewN q := by
  have hTe' : e ≠ T := hTe.symm
  have fT1 := fT 1
  have fT2 := fT 2
  have fT3 := fT 3
  have fe3 := fe 3
  have fe4 := fe 4
  have fe5 := fe 5
  clear fT fe
  go_enter Try.func35, Try.ntmps35
  go_wp2
  go_end0
  refine ⟨rfl, 0, ?_⟩
  simp only [unl, ptr, Option.map_none]
  exact (World.drewN_zero _).symm

set_option maxHeartbeats 1000000 in
theorem unlink_ns (T e : Nat) (x1 : Value) (k : Int) (nb : Nat) (y4 : Value) (w : World) (hTe : T ≠ e) (eo : w.cell? ⟨e, 4, none⟩ = some (.pointer none)) (en : w.cell? ⟨e, 5, none⟩ = some (.pointer (some ⟨nb, 0, none⟩))) (ef : w.cell? ⟨e, 3, none⟩ = some (.bool true))
    (t1 : w.cell? ⟨T, 1, none⟩ = some x1) (t3 : w.cell? ⟨T, 3, none⟩ = some (.int .i64 k)) (hk : 1 ≤ k) (hk2 : k ≤ 1048576)
    (fT : ∀ i, w.frozen? ⟨T, i, none⟩ = false) (fe : ∀ i, w.frozen? ⟨e, i, none⟩ = false) (hTn : T ≠ nb) (hen : e ≠ nb) (n4 : w.cell? ⟨nb, 4, none⟩ = some y4) (fn : ∀ i, w.frozen? ⟨nb, i, none⟩ = false) :
    Calls Try.prog 35 #[.pointer (some ⟨T, 0, none⟩), .pointer (some ⟨e, 0, none⟩)] w fun r w' => r = .returned (.tuple #[]) ∧ ∃ q, w' = (unl w T e none (some nb) k).drewN q := by
  have hTe' : e ≠ T := hTe.symm
  have fT1 := fT 1
  have fT3 := fT 3
  have fe3 := fe 3
  have fe4 := fe 4
  have fe5 := fe 5
  have hTn' : nb ≠ T := hTn.symm
  have hen' : nb ≠ e := hen.symm
  have fn4 := fn 4
  clear fT fe fn
  go_enter Try.func35, Try.ntmps35
  go_wp2
  go_region
  go_wp2
  go_end0
  refine ⟨rfl, 1, ?_⟩
  simp only [unl, ptr, Option.map_none, Option.map_some]
  exact drew1 _

set_option maxHeartbeats 1000000 in
theorem unlink_sn (T e : Nat) (x2 : Value) (k : Int) (ob : Nat) (y5 : Value) (w : World) (hTe : T ≠ e) (eo : w.cell? ⟨e, 4, none⟩ = some (.pointer (some ⟨ob, 0, none⟩))) (en : w.cell? ⟨e, 5, none⟩ = some (.pointer none)) (ef : w.cell? ⟨e, 3, none⟩ = some (.bool true))
    (t2 : w.cell? ⟨T, 2, none⟩ = some x2) (t3 : w.cell? ⟨T, 3, none⟩ = some (.int .i64 k)) (hk : 1 ≤ k) (hk2 : k ≤ 1048576)
    (fT : ∀ i, w.frozen? ⟨T, i, none⟩ = false) (fe : ∀ i, w.frozen? ⟨e, i, none⟩ = false) (hTo : T ≠ ob) (heo : e ≠ ob) (o5 : w.cell? ⟨ob, 5, none⟩ = some y5) (fo : ∀ i, w.frozen? ⟨ob, i, none⟩ = false) :
    Calls Try.prog 35 #[.pointer (some ⟨T, 0, none⟩), .pointer (some ⟨e, 0, none⟩)] w fun r w' => r = .returned (.tuple #[]) ∧ ∃ q, w' = (unl w T e (some ob) none k).drewN q := by
  have hTe' : e ≠ T := hTe.symm
  have fT2 := fT 2
  have fT3 := fT 3
  have fe3 := fe 3
  have fe4 := fe 4
  have fe5 := fe 5
  have hTo' : ob ≠ T := hTo.symm
  have heo' : ob ≠ e := heo.symm
  have fo5 := fo 5
  clear fT fe fo
  go_enter Try.func35, Try.ntmps35
  go_wp2
  go_region
  go_wp2
  go_end0
  refine ⟨rfl, 1, ?_⟩
  simp only [unl, ptr, Option.map_none, Option.map_some]
  exact drew1 _

set_option maxHeartbeats 1000000 in
theorem unlink_ss (T e : Nat) (k : Int) (ob : Nat) (y5 : Value) (nb : Nat) (y4 : Value) (w : World) (hTe : T ≠ e) (eo : w.cell? ⟨e, 4, none⟩ = some (.pointer (some ⟨ob, 0, none⟩))) (en : w.cell? ⟨e, 5, none⟩ = some (.pointer (some ⟨nb, 0, none⟩))) (ef : w.cell? ⟨e, 3, none⟩ = some (.bool true))
    (t3 : w.cell? ⟨T, 3, none⟩ = some (.int .i64 k)) (hk : 1 ≤ k) (hk2 : k ≤ 1048576)
    (fT : ∀ i, w.frozen? ⟨T, i, none⟩ = false) (fe : ∀ i, w.frozen? ⟨e, i, none⟩ = false) (hTo : T ≠ ob) (heo : e ≠ ob) (o5 : w.cell? ⟨ob, 5, none⟩ = some y5) (fo : ∀ i, w.frozen? ⟨ob, i, none⟩ = false) (hTn : T ≠ nb) (hen : e ≠ nb) (n4 : w.cell? ⟨nb, 4, none⟩ = some y4) (fn : ∀ i, w.frozen? ⟨nb, i, none⟩ = false) :
    Calls Try.prog 35 #[.pointer (some ⟨T, 0, none⟩), .pointer (some ⟨e, 0, none⟩)] w fun r w' => r = .returned (.tuple #[]) ∧ ∃ q, w' = (unl w T e (some ob) (some nb) k).drewN q := by
  have hTe' : e ≠ T := hTe.symm
  have fT3 := fT 3
  have fe3 := fe 3
  have fe4 := fe 4
  have fe5 := fe 5
  have hTo' : ob ≠ T := hTo.symm
  have heo' : ob ≠ e := heo.symm
  have fo5 := fo 5
  have hTn' : nb ≠ T := hTn.symm
  have hen' : nb ≠ e := hen.symm
  have fn4 := fn 4
  clear fT fe fo fn
  go_enter Try.func35, Try.ntmps35
  go_wp2
  go_region
  go_wp2
  go_region
  go_wp2
  go_end0
  refine ⟨rfl, 2, ?_⟩
  simp only [unl, ptr, Option.map_some]
  exact drew2 _

end Go.Proofs.Qxb6003641a
