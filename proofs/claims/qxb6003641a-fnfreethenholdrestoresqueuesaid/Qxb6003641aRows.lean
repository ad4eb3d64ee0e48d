/-
  No cell of these rows narrows 'for every input' (looked for: loops, veiled, ifaces, maps, wideKeys, modest, calm, conditions, laid).
  DERIVED. THE GIVEN ROWS OF THIS SEAT. 4 by the template 'for every input the law returns true; each argument reads behind the call as it read before'; 0 by the template 'total and deterministic' (their statements: Qxb6003641aTotals.lean).
  GIVEN WITH THE SEED: the statements are not yours to turn. If you find one false, say at which input.
  Laid BY PROGRAM, IN A SANDBOX (cutbox-rows.mjs): the forced cells as the released guide's own fill.sh prints them over the translation ad0a584f0609bfff… (all of the seat's roots in one cut). By AI agents, Wed Nov 11 2026. No macro, syntax, notation, axiom, sorry.
-/
import Derived.Test.Qxb6003641aChecked
import GoSem.Claim
import GoSem.ClaimJoined
import GoSem.ClaimMapViews
import Derived.JoinedTies
import Derived.KernelRfl
namespace Go.Proofs.Qxb6003641a
/- THE CELL 'sum', in the pinned program and in every row, IS THE sha256 OF THE DUMP (.gsa) THAT Qxb6003641aProg.lean LOADS. Nothing in Lean hashes anything: it is a label: what it is worth is what the hold of that sum in a sandbox is worth. -/
noncomputable def Try.pinned : Pinned := { name := "qxb6003641a", sum := "ad0a584f0609bfff4905f6f591ff41bf057f2311a755f7a2dbf0c0d1fbd5db0a", checked := Try.checked }
namespace Rows
def none {H : Type} : Left H := { results := [], args := [] }

/-- 'zzlaws_pkg_core_b1.FnHoldFreeScriptMatchesQueueModel': WHATEVER THE INPUT: true; the input reads as it did. -/
def fnHoldFreeScriptMatchesQueueModelSpec : ChangeSpec := { name := "fnHoldFreeScriptMatchesQueueModel", fn := fun _ => fun
  | [d1, d2] => { results := [.lit (.bool true)], args := [d1, d2] }
  | _ => none }
def fnHoldFreeScriptMatchesQueueModelRow : OpenClaim := { program := "qxb6003641a", sum := "ad0a584f0609bfff4905f6f591ff41bf057f2311a755f7a2dbf0c0d1fbd5db0a", func := "example.com/leasehold/leasehold/zzlaws_pkg_core_b1.FnHoldFreeScriptMatchesQueueModel", spec := "fnHoldFreeScriptMatchesQueueModel", apart := false }
def FnHoldFreeScriptMatchesQueueModelSaid : Prop := fnHoldFreeScriptMatchesQueueModelRow.holds Try.pinned (OpenSpec.ofChange fnHoldFreeScriptMatchesQueueModelSpec)

/-- ITS FALSE NEIGHBOUR: 'it returns false'. Refute it at one input. -/
def fnHoldFreeScriptMatchesQueueModelWrong : ChangeSpec := { name := "fnHoldFreeScriptMatchesQueueModel", fn := fun _ => fun
  | [d1, d2] => { results := [.lit (.bool false)], args := [d1, d2] }
  | _ => none }
def FnHoldFreeScriptMatchesQueueModelWrongFalsely : Prop := fnHoldFreeScriptMatchesQueueModelRow.holds Try.pinned (OpenSpec.ofChange fnHoldFreeScriptMatchesQueueModelWrong)

/-- 'zzlaws_pkg_core_b1.FnFreeThenHoldRestoresQueue': WHATEVER THE INPUT: true; the input reads as it did. -/
def fnFreeThenHoldRestoresQueueSpec : ChangeSpec := { name := "fnFreeThenHoldRestoresQueue", fn := fun _ => fun
  | [d1, d2, d3] => { results := [.lit (.bool true)], args := [d1, d2, d3] }
  | _ => none }
def fnFreeThenHoldRestoresQueueRow : OpenClaim := { program := "qxb6003641a", sum := "ad0a584f0609bfff4905f6f591ff41bf057f2311a755f7a2dbf0c0d1fbd5db0a", func := "example.com/leasehold/leasehold/zzlaws_pkg_core_b1.FnFreeThenHoldRestoresQueue", spec := "fnFreeThenHoldRestoresQueue", apart := false }
def FnFreeThenHoldRestoresQueueSaid : Prop := fnFreeThenHoldRestoresQueueRow.holds Try.pinned (OpenSpec.ofChange fnFreeThenHoldRestoresQueueSpec)

/-- ITS FALSE NEIGHBOUR: 'it returns false'. Refute it at one input. -/
def fnFreeThenHoldRestoresQueueWrong : ChangeSpec := { name := "fnFreeThenHoldRestoresQueue", fn := fun _ => fun
  | [d1, d2, d3] => { results := [.lit (.bool false)], args := [d1, d2, d3] }
  | _ => none }
def FnFreeThenHoldRestoresQueueWrongFalsely : Prop := fnFreeThenHoldRestoresQueueRow.holds Try.pinned (OpenSpec.ofChange fnFreeThenHoldRestoresQueueWrong)

/-- 'zzlaws_pkg_core_b1.FnFreeTwiceIsFreeOnce': WHATEVER THE INPUT: true; the input reads as it did. -/
def fnFreeTwiceIsFreeOnceSpec : ChangeSpec := { name := "fnFreeTwiceIsFreeOnce", fn := fun _ => fun
  | [d1, d2, d3] => { results := [.lit (.bool true)], args := [d1, d2, d3] }
  | _ => none }
def fnFreeTwiceIsFreeOnceRow : OpenClaim := { program := "qxb6003641a", sum := "ad0a584f0609bfff4905f6f591ff41bf057f2311a755f7a2dbf0c0d1fbd5db0a", func := "example.com/leasehold/leasehold/zzlaws_pkg_core_b1.FnFreeTwiceIsFreeOnce", spec := "fnFreeTwiceIsFreeOnce", apart := false }
def FnFreeTwiceIsFreeOnceSaid : Prop := fnFreeTwiceIsFreeOnceRow.holds Try.pinned (OpenSpec.ofChange fnFreeTwiceIsFreeOnceSpec)

/-- ITS FALSE NEIGHBOUR: 'it returns false'. Refute it at one input. -/
def fnFreeTwiceIsFreeOnceWrong : ChangeSpec := { name := "fnFreeTwiceIsFreeOnce", fn := fun _ => fun
  | [d1, d2, d3] => { results := [.lit (.bool false)], args := [d1, d2, d3] }
  | _ => none }
def FnFreeTwiceIsFreeOnceWrongFalsely : Prop := fnFreeTwiceIsFreeOnceRow.holds Try.pinned (OpenSpec.ofChange fnFreeTwiceIsFreeOnceWrong)

/-- 'zzlaws_pkg_core_b1.FnUnlinkTakesOutJustThatEntry': WHATEVER THE INPUT: true; the input reads as it did. -/
def fnUnlinkTakesOutJustThatEntrySpec : ChangeSpec := { name := "fnUnlinkTakesOutJustThatEntry", fn := fun _ => fun
  | [d1, d2, d3] => { results := [.lit (.bool true)], args := [d1, d2, d3] }
  | _ => none }
def fnUnlinkTakesOutJustThatEntryRow : OpenClaim := { program := "qxb6003641a", sum := "ad0a584f0609bfff4905f6f591ff41bf057f2311a755f7a2dbf0c0d1fbd5db0a", func := "example.com/leasehold/leasehold/zzlaws_pkg_core_b1.FnUnlinkTakesOutJustThatEntry", spec := "fnUnlinkTakesOutJustThatEntry", apart := false }
def FnUnlinkTakesOutJustThatEntrySaid : Prop := fnUnlinkTakesOutJustThatEntryRow.holds Try.pinned (OpenSpec.ofChange fnUnlinkTakesOutJustThatEntrySpec)

/-- ITS FALSE NEIGHBOUR: 'it returns false'. Refute it at one input. -/
def fnUnlinkTakesOutJustThatEntryWrong : ChangeSpec := { name := "fnUnlinkTakesOutJustThatEntry", fn := fun _ => fun
  | [d1, d2, d3] => { results := [.lit (.bool false)], args := [d1, d2, d3] }
  | _ => none }
def FnUnlinkTakesOutJustThatEntryWrongFalsely : Prop := fnUnlinkTakesOutJustThatEntryRow.holds Try.pinned (OpenSpec.ofChange fnUnlinkTakesOutJustThatEntryWrong)

end Rows
end Go.Proofs.Qxb6003641a
