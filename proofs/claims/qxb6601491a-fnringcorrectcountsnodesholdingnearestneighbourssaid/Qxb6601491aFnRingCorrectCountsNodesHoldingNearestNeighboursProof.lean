/-
  THE PROOF OF 'Rows.FnRingCorrectCountsNodesHoldingNearestNeighboursSaid': the frame is the guide's own (proof-skeleton), turned to a slice of addresses and a slice of lists; the walks lie in the Rg texts, the plain law in RgL and RgQ, the opener in RgT.
-/
import Derived.Test.Qxb6601491aRows
import Derived.WalkKit
import Derived.ProofKit
import Derived.OpenShut
import Derived.ShutString
import Derived.ChangeOld
import Derived.Below
import Derived.Deep.Slices
import Derived.Test.Qxb6601491aRgT
import Derived.Test.Qxb6601491aRgU
namespace Go.Proofs.Qxb6601491a.fnRingCorrectCountsNodesHoldingNearestNeighbours
open Go.ChangeShapes Go.WideShapes Go.ChangeAt Go.RowKit
open Go.ChangeMaps (open_string shut_string)
set_option linter.unusedVariables false

theorem own : ownKnob Try.prog.godebug = none := by kernel_rfl
theorem laidOut : laidOutB Try.prog = true := by kernel_rfl

/-! ### THE ROW's STEP: WRITTEN OUT: LEAVE IT -/
set_option maxRecDepth 100000 in
theorem lifted (os : Os) (started : os.Started) (H : Type) (enc : TypeId × Value → H) :
    ReturnsInHanded {} Try.checked os 5 .any (Rows.fnRingCorrectCountsNodesHoldingNearestNeighboursSpec.pre6 enc Try.prog Try.f5 Rows.fnRingCorrectCountsNodesHoldingNearestNeighboursRow.domain false) (Rows.fnRingCorrectCountsNodesHoldingNearestNeighboursSpec.post enc Try.prog Try.f5 false true false false) := by
  refine returnsInHanded_of_change (C := Try.checked) own started (by kernel_rfl) Try.func5
    (ChangeSpec.witness6 (enc := enc) (C := Try.checked) false ⟨#[], #[.slice none 0 0, .slice none 0 0], []⟩ 8 (by kernel_rfl) (by kernel_rfl) (by kernel_rfl) (by kernel_rfl)) ?_
  intro W base args ds gs before hval0 hW hcnd _
  have hval : ∀ (j : Nat) t v, Try.f5.params[j]? = some t → args[j]? = some v → Value.okWide Try.prog W .any base t v := hval0
  have hW' := hW
  obtain ⟨p, q, hA0, hV, rfl, hfz, hnd⟩ := hW
  have hA : DataW.TrodAll enc Try.prog W 0 (fun _ => true) true Try.f5.params.toList args.toList ds p := hA0
  rw [Try.params5] at hA hval
  obtain ⟨v0, vs0, d0, ds0, p0, q0, hargs, rfl, rfl, h0, r0⟩ := trodAll_cons hA
  obtain ⟨v1, vs1, d1, ds1, p1, q1, hargs1, rfl, rfl, h1, r1⟩ := trodAll_cons r0
  obtain ⟨rfl, rfl, rfl⟩ := trodAll_nil r1
  obtain rfl : args = #[v0, v1] := by cases args; simp_all
  obtain ⟨rfl, rfl⟩ := trodVars_none hV
  obtain ⟨a0, len0, cap0, rfl⟩ := okWide_slice Try.underlying51 (hval 0 51 v0 rfl rfl)
  obtain ⟨a1, len1, cap1, rfl⟩ := okWide_slice Try.underlying27 (hval 1 27 v1 rfl rfl)
  have k0 := h0
  have k1 := h1
  have lt0 : ∀ x ∈ p0, x.block < W.heap.size := by obtain ⟨m, hm⟩ := k0; exact DataW.trod_lt m _ _ _ hm
  have lt1 : ∀ x ∈ p1, x.block < W.heap.size := by obtain ⟨m, hm⟩ := k1; exact DataW.trod_lt m _ _ _ hm
  obtain ⟨A, wA, wn, wa⟩ : ∃ A, AdrAt W a0 len0 A ∧ len0 ≤ maxLen ∧ (a0 = none → len0 = 0 ∧ cap0 = 0) := by
    obtain ⟨fuel, hf⟩ := h0
    exact open_adrs (by simpa [Value.cells] using hf)
  obtain ⟨L, vs, wL, wm, wb⟩ : ∃ L vs, LstsAt W a1 len1 L vs ∧ len1 ≤ maxLen ∧ (a1 = none → len1 = 0 ∧ cap1 = 0) := by
    obtain ⟨fuel, hf⟩ := h1
    exact open_lists (by simpa [Value.cells] using hf)
  clear hA0 hval0
  refine (main_rg a0 len0 cap0 A a1 len1 cap1 L vs W wn wm wA wa wL wb).mono fun e W' ⟨he, bel⟩ => ?_
  subst he
  exact ⟨_, rfl, _, _, _, [], _, [], hW', trodAll_mk1 (shut_bool Try.underlying4 _), (trodAll_cons_mk (Below.trod laidOut (by kernel_rfl) (of_decide_eq_true (by kernel_rfl)) k0 bel lt0) (trodAll_cons_mk (Below.trod laidOut (by kernel_rfl) (of_decide_eq_true (by kernel_rfl)) k1 bel lt1) trodAll_mk0)), rfl, bel.frame _, fun h => by cases h⟩

theorem over : Rows.fnRingCorrectCountsNodesHoldingNearestNeighboursRow.holds Try.pinned (OpenSpec.ofChange Rows.fnRingCorrectCountsNodesHoldingNearestNeighboursSpec) :=
  OpenClaim.holds_of_wide 5 Try.f5 rfl rfl rfl rfl rfl rfl rfl ⟨rfl, rfl, rfl, rfl, rfl⟩ rfl rfl rfl rfl rfl (by kernel_rfl) Try.func5 jf_all
    (of_decide_eq_true (by kernel_rfl)) (by unfold Func.isWrapper; first | (rw [if_pos (by decide +kernel)]; kernel_rfl) | (rw [if_neg (by decide +kernel)]; exact ⟨rfl, rfl⟩))
    (fun os started H enc _ => lifted os started H enc)

/-- ████ THE STATEMENT ████ -/
theorem proved : Rows.FnRingCorrectCountsNodesHoldingNearestNeighboursSaid := over
end Go.Proofs.Qxb6601491a.fnRingCorrectCountsNodesHoldingNearestNeighbours
