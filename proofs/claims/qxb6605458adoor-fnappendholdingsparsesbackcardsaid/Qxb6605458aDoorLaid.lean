import Derived.Test.Qxb6605458aDoorRows
import Derived.Test.Qxb6605458aDoorShelf
import Derived.Lib.LaidTab
import Derived.LaidMore
import Derived.MakeChecks
import Derived.ProofKit
namespace Go.Proofs.Qxb6605458aDoor
open Go.RowKit

/-- The three tables, as the rows list them. -/
abbrev laid3 : List (String × DataW Unit) := Rows.fnAppendPaddedReadsBackAsNRow.laid

theorem door_met (os : Os) (args : Array Value) : laidMetH Tryd.prog laid3 ((World.doorLaid Tryd.prog 400 os).forCall (fun _ _ => 0) ⟨#[], args, []⟩).memory :=
  laidMetH_of_parts3 (fuel := 8) (laidMet_of_run' 8 (by kernel_rfl) (by kernel_rfl)) (by kernel_rfl) (by kernel_rfl)

theorem gTab : Tryd.prog.globalNamed Tryd.tabName = some 0 := by kernel_rfl
theorem tTab : (Tryd.prog.globals[0]?).map (·.type) = some 47 := by kernel_rfl
theorem isTab {H : Type} : (Rows.laid_internal_strconv_uint64pow10 : DataW H) = Lib.tabData .u64 Lib.pow10Tab := by kernel_rfl

theorem of_laid {W : World} (h : laidMetH Tryd.prog laid3 W) : Lib.TabIs Tryd.prog W Tryd.tabName .u64 Lib.pow10Tab := by
  rw [MakeChecks.laidMetH_plain _ _ _ (by kernel_rfl)] at h
  obtain ⟨ps, ⟨g0, t0, cs0, f0, p0, q0, hg0, ht0, hv0, hd0, ⟨g1, t1, cs1, f1, p1, q1, hg1, ht1, hv1, hd1, ⟨g2, t2, cs2, f2, p2, q2, hg2, ht2, hv2, hd2, _, _⟩, _⟩, _⟩, _, _⟩ := h
  obtain rfl := Option.some.inj (gTab.symm.trans hg2)
  obtain rfl := Option.some.inj (tTab.symm.trans ht2)
  rw [isTab] at hd2
  have := Lib.cells_of_tab (n := 20) (e := 27) (k := .u64) Tryd.underlying47 Tryd.underlying27 (by kernel_rfl) (by kernel_rfl) hd2
  unfold Lib.TabIs
  rw [← this]
  exact hv2
end Go.Proofs.Qxb6605458aDoor
