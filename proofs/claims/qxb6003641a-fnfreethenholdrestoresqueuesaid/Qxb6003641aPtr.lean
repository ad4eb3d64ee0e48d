import Derived.Test.Qxb6003641aEntry
import Derived.LaidEqlPtr
namespace Go.Proofs.Qxb6003641a
open Go.RowKit

theorem info55 : (Try.prog.info? 55).map (fun i => i.size) = some 6 := by kernel_rfl

/-- A pointer differs not from itself. -/
theorem neqSame (p : Option Addr) (w : World) : (binOp .neq 30 (.pointer p) (.pointer p)).run Try.prog w = .ok (.bool false) w := by
  cases p with
  | none => exact run_neq_pointer_nil w 30 none Try.underlying30
  | some a =>
    obtain ⟨i, hi, _⟩ := Option.map_eq_some_iff.1 info55
    have h : ∀ d : Nat, (Op.equalIn (d + 1) 30 (.pointer (some a)) (.pointer (some a))).run Try.prog w = .ok true w := fun d => by
      simp [Op.equalIn, run_underlying Try.underlying30, sizeOf, typeInfo, hi, run_sameAddr_same]
    simp only [binOp]
    simp [Op.equal, Op.maxDepth, h 9999]

end Go.Proofs.Qxb6003641a
