import Derived.Test.Qxb6614887aDoorLaws
import Derived.Test.Qxb6614887aDoorRows
import Derived.ProofKit
import Derived.LaidMore
import Derived.OpenShut
import Derived.Stop.Joined
import Derived.MakeChecks
namespace Go.Proofs.Qxb6614887aDoor
open Go.ChangeShapes Go.WideShapes Go.ChangeAt Go.RowKit

theorem own : ownKnob Tryd.prog.godebug = none := by kernel_rfl

/-- What both rows list. -/
def laid3 : List (String × DataW Unit) := Rows.fnStringReadsBackCanonicallyRow.laid

/-- The door's own heap meets the condition. -/
theorem door_met (os : Os) (args : Array Value) : laidMetH Tryd.prog laid3 ((World.doorLaid Tryd.prog 24 os).forCall (fun _ _ => 0) ⟨#[], args, []⟩).memory :=
  laidMetH_of_parts3 (fuel := 8) (laidMet_of_run' 8 (by kernel_rfl) (by kernel_rfl)) (by kernel_rfl) (by kernel_rfl)

theorem gPow : Tryd.prog.globalNamed powName = some 0 := by kernel_rfl
theorem tPow : (Tryd.prog.globals[0]?).map (·.type) = some 46 := by kernel_rfl
theorem powIs : (Rows.laid_internal_strconv_uint64pow10 : DataW Unit) = Lib.tabData .u64 Lib.pow10Tab := by kernel_rfl

/-- What the condition gives the walks: the table of the powers of ten. -/
theorem of_laid {W : World} (h : laidMetH Tryd.prog laid3 W) : Lib.TabIs Tryd.prog W powName .u64 Lib.pow10Tab := by
  rw [MakeChecks.laidMetH_plain _ _ _ (by kernel_rfl)] at h
  obtain ⟨ps, ⟨_, _, _, _, _, _, _, _, _, _, ⟨_, _, _, _, _, _, _, _, _, _, ⟨g2, t2, cs2, f2, p2, q2, hg2, ht2, hv2, hd2, _, _⟩, _⟩, _⟩, _, _⟩ := h
  obtain rfl := Option.some.inj (gPow.symm.trans hg2)
  obtain rfl := Option.some.inj (tPow.symm.trans ht2)
  have hv : W.var? Tryd.prog powName = some cs2 := hv2
  unfold Lib.TabIs
  rw [hv, ← Lib.cells_of_tab Tryd.underlying46 Tryd.underlying22 (by kernel_rfl) (by kernel_rfl) (powIs ▸ hd2)]
end Go.Proofs.Qxb6614887aDoor
