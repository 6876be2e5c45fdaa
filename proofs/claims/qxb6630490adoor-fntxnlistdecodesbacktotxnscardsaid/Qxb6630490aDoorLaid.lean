/- What the rows' listed table gives the walks; a start that meets the list. -/
import Derived.Test.Qxb6630490aDoorList
import Derived.ProofKit
import Derived.LaidMore
import Derived.OpenShut
import Derived.Stop.Joined
import Derived.Stop.LaidErr
import Derived.MakeChecks
import Derived.Lib.LaidTab
namespace Go.Proofs.Qxb6630490aDoor
open Go.RowKit

theorem laidMet_drop2 {P : Program} {W : World} : ∀ {l : List (String × DataW Unit)}, laidMet P l W → laidMet P (l.drop 2) W
  | [], _ => laidMet_nil P W
  | [_], _ => laidMet_nil P W
  | _ :: _ :: _, h => h.tail.tail

theorem laid_same : Rows.fnTxnListDecodesBackToTxnsRow.laid = Rows.fnTxnListSplitsAroundAnyElementRow.laid := rfl
theorem laid_drop : Rows.fnTxnListSplitsAroundAnyElementRow.laid.drop 2 = [(Tryd.tabName, Lib.tabData .u64 Lib.pow10Tab)] := by kernel_rfl

/-- The table, out of the row's condition. -/
theorem tab_of_laid {W : World} (h : laidMetH Tryd.prog Rows.fnTxnListSplitsAroundAnyElementRow.laid W) : Tab W.heap.size W := by
  rw [MakeChecks.laidMetH_plain _ _ _ (by kernel_rfl)] at h
  have h2 := laidMet_drop2 h
  rw [laid_drop] at h2
  exact Lib.tabBelow_of_tabIs (Lib.tabIs_of_head (g := 0) (t := 52) (e := 39) (n := 20) (by kernel_rfl) (by kernel_rfl) Tryd.underlying52 Tryd.underlying39 (by kernel_rfl) (by kernel_rfl) h2)

/-- The heap that the door's own run leaves meets the condition. -/
theorem door_met (os : Os) (args : Array Value) : laidMetH Tryd.prog Rows.fnTxnListSplitsAroundAnyElementRow.laid ((World.doorLaid Tryd.prog 400 os).forCall (fun _ _ => 0) ⟨#[], args, []⟩).memory :=
  laidMetH_of_parts3 (fuel := 8) (laidMet_of_run' 8 (by kernel_rfl) (by kernel_rfl)) (by kernel_rfl) (by kernel_rfl)
end Go.Proofs.Qxb6630490aDoor
