import Derived.Test.Qxb6003641aUnlink
namespace Go.Proofs.Qxb6003641a
open Go.RowKit

/-- The world behind free. -/
def frd (w : World) (T e : Nat) (n : Option Nat) (k : Int) : World :=
  let w1 := ((w.setCell ⟨e, 3, none⟩ (.bool true)).setCell ⟨e, 4, none⟩ (ptr n)).setCell ⟨e, 5, none⟩ (.pointer none)
  let w2 := match n with
    | none => w1.setCell ⟨T, 1, none⟩ (.pointer (some ⟨e, 0, none⟩))
    | some b => w1.setCell ⟨b, 5, none⟩ (.pointer (some ⟨e, 0, none⟩))
  (w2.setCell ⟨T, 2, none⟩ (.pointer (some ⟨e, 0, none⟩))).setCell ⟨T, 3, none⟩ (.int .i64 (k + 1))

set_option maxHeartbeats 1000000 in
theorem free_unknown (T : Nat) (m : Option Nat) (s : ByteArray) (w : World) (t0 : w.cell? ⟨T, 0, none⟩ = some (.map m))
    (hlk : (Instr.lookup 29 (.map m) (.string s) true).run Try.prog w = .ok (.tuple #[.pointer none, .bool false]) w) :
    Calls Try.prog 33 #[.pointer (some ⟨T, 0, none⟩), .string s] w fun r w' => r = .returned (.tuple #[]) ∧ w' = w := by
  go_enter Try.func33, Try.ntmps33
  go_wp2
  refine bodyPost_ret (results_none rfl _ _ _) rfl ?_
  exact ⟨rfl, rfl⟩

set_option maxHeartbeats 1000000 in
theorem free_already (T e : Nat) (m : Option Nat) (s : ByteArray) (w : World) (t0 : w.cell? ⟨T, 0, none⟩ = some (.map m)) (ef : w.cell? ⟨e, 3, none⟩ = some (.bool true))
    (hlk : (Instr.lookup 29 (.map m) (.string s) true).run Try.prog w = .ok (.tuple #[.pointer (some ⟨e, 0, none⟩), .bool true]) w) :
    Calls Try.prog 33 #[.pointer (some ⟨T, 0, none⟩), .string s] w fun r w' => r = .returned (.tuple #[]) ∧ w' = w := by
  go_enter Try.func33, Try.ntmps33
  go_wp2
  refine bodyPost_ret (results_none rfl _ _ _) rfl ?_
  exact ⟨rfl, rfl⟩

set_option maxHeartbeats 1000000 in
theorem free_n (T e : Nat) (m : Option Nat) (s : ByteArray) (x1 y4 y5 : Value) (k : Int) (w : World) (hTe : T ≠ e) (t0 : w.cell? ⟨T, 0, none⟩ = some (.map m)) (ef : w.cell? ⟨e, 3, none⟩ = some (.bool false))
    (hlk : (Instr.lookup 29 (.map m) (.string s) true).run Try.prog w = .ok (.tuple #[.pointer (some ⟨e, 0, none⟩), .bool true]) w)
    (e4 : w.cell? ⟨e, 4, none⟩ = some y4) (e5 : w.cell? ⟨e, 5, none⟩ = some y5) (t1 : w.cell? ⟨T, 1, none⟩ = some x1) (t2 : w.cell? ⟨T, 2, none⟩ = some (.pointer none)) (t3 : w.cell? ⟨T, 3, none⟩ = some (.int .i64 k)) (hk : 0 ≤ k) (hk2 : k ≤ 1048576)
    (fT : ∀ i, w.frozen? ⟨T, i, none⟩ = false) (fe : ∀ i, w.frozen? ⟨e, i, none⟩ = false) :
    Calls Try.prog 33 #[.pointer (some ⟨T, 0, none⟩), .string s] w fun r w' => r = .returned (.tuple #[]) ∧ w' = frd w T e none k := by
  have hTe' : e ≠ T := hTe.symm
  have fT1 := fT 1
  have fT2 := fT 2
  have fT3 := fT 3
  have fe3 := fe 3
  have fe4 := fe 4
  have fe5 := fe 5
  clear fT fe
  go_enter Try.func33, Try.ntmps33
  go_wp2
  go_end0
  exact ⟨rfl, rfl⟩

set_option maxHeartbeats 1000000 in
theorem free_s (T e nb : Nat) (m : Option Nat) (s : ByteArray) (y4 y5 z5 : Value) (k : Int) (w : World) (hTe : T ≠ e) (hTn : T ≠ nb) (hen : e ≠ nb) (t0 : w.cell? ⟨T, 0, none⟩ = some (.map m)) (ef : w.cell? ⟨e, 3, none⟩ = some (.bool false))
    (hlk : (Instr.lookup 29 (.map m) (.string s) true).run Try.prog w = .ok (.tuple #[.pointer (some ⟨e, 0, none⟩), .bool true]) w)
    (e4 : w.cell? ⟨e, 4, none⟩ = some y4) (e5 : w.cell? ⟨e, 5, none⟩ = some y5) (n5 : w.cell? ⟨nb, 5, none⟩ = some z5) (t2 : w.cell? ⟨T, 2, none⟩ = some (.pointer (some ⟨nb, 0, none⟩))) (t3 : w.cell? ⟨T, 3, none⟩ = some (.int .i64 k)) (hk : 0 ≤ k) (hk2 : k ≤ 1048576)
    (fT : ∀ i, w.frozen? ⟨T, i, none⟩ = false) (fe : ∀ i, w.frozen? ⟨e, i, none⟩ = false) (fn : ∀ i, w.frozen? ⟨nb, i, none⟩ = false) :
    Calls Try.prog 33 #[.pointer (some ⟨T, 0, none⟩), .string s] w fun r w' => r = .returned (.tuple #[]) ∧ w' = frd w T e (some nb) k := by
  have hTe' : e ≠ T := hTe.symm
  have hTn' : nb ≠ T := hTn.symm
  have hen' : nb ≠ e := hen.symm
  have fT2 := fT 2
  have fT3 := fT 3
  have fe3 := fe 3
  have fe4 := fe 4
  have fe5 := fe 5
  have fn5 := fn 5
  clear fT fe fn
  go_enter Try.func33, Try.ntmps33
  go_wp2
  go_end0
  exact ⟨rfl, rfl⟩

end Go.Proofs.Qxb6003641a
