/-
  THE ROW's CLOSED CELLS, A THEOREM EACH: the kernel gives its memory back behind each.
-/
import Derived.Test.Qxb6601491aRows
import Derived.WalkKit
import Derived.ProofKit
import Derived.OpenShut
namespace Go.Proofs.Qxb6601491a
open Go.RowKit

theorem jf_unfollowed : (Rows.fnRingCorrectCountsNodesHoldingNearestNeighboursRow.unfollowed == Try.prog.unfollowed 5) = true := by kernel_rfl
theorem jf_recurses : (Rows.fnRingCorrectCountsNodesHoldingNearestNeighboursRow.recurses == Try.prog.recurses 5) = true := by kernel_rfl
theorem jf_inPlace : (Rows.fnRingCorrectCountsNodesHoldingNearestNeighboursRow.inPlace == Try.prog.inPlace 5) = true := by kernel_rfl
theorem jf_named : (Rows.fnRingCorrectCountsNodesHoldingNearestNeighboursRow.named == Try.prog.varsNamed 5) = true := by kernel_rfl
theorem jf_laid : laidOutB Try.prog = true := by kernel_rfl
theorem jf_rowed : mapsRowed Try.prog = true := by kernel_rfl
theorem jf_plain : (Rows.fnRingCorrectCountsNodesHoldingNearestNeighboursRow.plainKeys == Try.prog.plainKeys) = true := by kernel_rfl
theorem jf_heard : Try.prog.stopsHeard = true := by kernel_rfl
theorem jf_enter : Try.prog.mayEnter = true := by kernel_rfl
theorem jf_lifted : (Rows.fnRingCorrectCountsNodesHoldingNearestNeighboursRow.lifted == Try.prog.liftsFinal) = true := by kernel_rfl
theorem jf_make : (Try.prog.make == some Rows.fnRingCorrectCountsNodesHoldingNearestNeighboursRow.make) = true := by kernel_rfl

theorem jf_all : joinedFacts Try.prog 5 Try.f5 Rows.fnRingCorrectCountsNodesHoldingNearestNeighboursSpec Rows.fnRingCorrectCountsNodesHoldingNearestNeighboursRow = true := by
  unfold joinedFacts
  rw [jf_laid, jf_rowed, jf_inPlace, jf_unfollowed, jf_recurses, jf_named, jf_plain, jf_heard, jf_enter, jf_lifted, jf_make]
  kernel_rfl
end Go.Proofs.Qxb6601491a
