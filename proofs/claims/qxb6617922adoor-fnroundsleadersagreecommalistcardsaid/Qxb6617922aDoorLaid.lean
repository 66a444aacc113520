/-
  THE LISTED VARIABLES: what the row's condition gives the walks; a start that meets it.
-/
import Derived.Test.Qxb6617922aDoorShelf
import Derived.ProofKit
import Derived.LaidMore
import Derived.OpenShut
import Derived.Stop.Joined
namespace Go.Proofs.Qxb6617922aDoor.Ld
open Go.ChangeShapes Go.WideShapes Go.ChangeAt Go.WideMaps Go.WideElems Go.RowKit
open Go.Proofs.Qxb6617922aDoor.Sh

theorem own : ownKnob Tryd.prog.godebug = none := by kernel_rfl
theorem laidOut : laidOutB Tryd.prog = true := by kernel_rfl
theorem tabType : (Tryd.prog.globals[0]?).map (·.type) = some 82 := by kernel_rfl

/-- the rows' one list -/
abbrev laid : List (String × DataW Unit) := Rows.fnConstructionRankedAgreesCommaListRow.laid

theorem laidTab : (Rows.laid_internal_strconv_uint64pow10 : DataW Unit) = Lib.tabData .u64 Lib.pow10Tab := by kernel_rfl

theorem door_met (os : Os) (args : Array Value) : laidMetH Tryd.prog laid ((World.doorLaid Tryd.prog 400 os).forCall (fun _ _ => 0) ⟨#[], args, []⟩).memory :=
  laidMetH_of_parts3 (fuel := 8) (laidMet_of_run' 8 (by kernel_rfl) (by kernel_rfl)) (by kernel_rfl) (by kernel_rfl)

/-- WHAT THE CONDITION GIVES THE WALKS: the table. -/
theorem of_laid {W : World} (h : laidMetH Tryd.prog laid W) : Tab W := by
  rw [MakeChecks.laidMetH_plain _ _ _ (by kernel_rfl)] at h
  obtain ⟨ps, ⟨g0, t0, cs0, f0, p0, q0, hg0, ht0, hv0, hd0, ⟨g1, t1, cs1, f1, p1, q1, hg1, ht1, hv1, hd1, ⟨g2, t2, cs2, f2, p2, q2, hg2, ht2, hv2, hd2, _, _⟩, _⟩, _⟩, _, _⟩ := h
  obtain rfl := Option.some.inj (tabVar.symm.trans hg2)
  obtain rfl := Option.some.inj (tabType.symm.trans ht2)
  rw [laidTab] at hd2
  have hc := Lib.cells_of_tab Tryd.underlying82 Tryd.underlying27 (by kernel_rfl) (by kernel_rfl) hd2
  show W.var? Tryd.prog _ = some _
  rw [← hc]
  exact hv2

end Go.Proofs.Qxb6617922aDoor.Ld
