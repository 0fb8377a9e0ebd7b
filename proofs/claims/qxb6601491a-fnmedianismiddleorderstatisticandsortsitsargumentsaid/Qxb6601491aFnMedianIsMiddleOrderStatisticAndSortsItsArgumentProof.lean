/-
  THE PROOF OF 'Rows.FnMedianIsMiddleOrderStatisticAndSortsItsArgumentSaid': the frame is the guide's own (proof-skeleton), turned from a slice of integers to a slice of floats; the walks lie in MedWalk, MedLaw.
-/
import Derived.Test.Qxb6601491aRows
import Derived.WalkKit
import Derived.ProofKit
import Derived.OpenShut
import Derived.ShutString
import Derived.ChangeOld
import Derived.Below
import Derived.Deep.Slices
import Derived.Test.Qxb6601491aMedLaw
namespace Go.Proofs.Qxb6601491a.fnMedianIsMiddleOrderStatisticAndSortsItsArgument
open Go.ChangeShapes Go.WideShapes Go.ChangeAt Go.RowKit
open Go.ChangeMaps (open_string shut_string)
set_option linter.unusedVariables false

theorem own : ownKnob Try.prog.godebug = none := by kernel_rfl
theorem laidOut : laidOutB Try.prog = true := by kernel_rfl

theorem trod_float {H : Type} {enc : TypeId × Value → H} {P : Program} {w : World} {base : Nat} {spare : Nat → Bool} {held : Bool} {t : TypeId} {k : FloatKind} {fuel : Nat} {cs : List Value} {x : DataW H × List MemPlace}
    (ht : P.underlying t = some (.float k)) (h : DataW.trod enc P w base spare held fuel t cs = some x) : ∃ n, cs = [.float k n] ∧ (Lit.float k n).wf = true := by
  cases fuel with
  | zero => simp [DataW.trod] at h
  | succ n =>
    unfold DataW.trod at h
    rw [ht] at h
    split at h <;> simp_all

/-- WHAT THE WALK IS TOLD OF A SLICE OF FLOATS THAT CAME IN: it is nil; or it leads to a row whose first 'len' cells are the words 'zs'. -/
def IsRow (w : World) (a : Option Addr) (len cap : Nat) (zs : List Nat) : Prop :=
  (a = none ∧ len = 0 ∧ cap = 0) ∨
  ∃ x, a = some x ∧ len ≤ maxLen ∧ zs.length = len ∧ (∀ i, i < len → w.cell? (x.add i) = some (.float .f64 (zs.getD i 0))) ∧ ∀ n ∈ zs, n < 2 ^ 64

/-! ### STEP 1: THE WALK -/
theorem walk (a0 : Option Addr) (len0 cap0 : Nat) (z0 : List Nat) (w : World) (w0 : IsRow w a0 len0 cap0 z0) :
    Calls Try.prog 7 #[.slice a0 len0 cap0] w fun e w' => e = .returned (.bool true) ∧ Below w.heap.size w w' := by
  rcases w0 with ⟨rfl, rfl, rfl⟩ | ⟨x, rfl, hm, hz, hc, hwf⟩
  · exact law_none none 0 w (fun _ => rfl)
  · by_cases h0 : len0 = 0
    · subst h0
      exact law_none (some x) cap0 w (fun h => by cases h)
    · by_cases hn : len0 ≤ 4096
      · have hx := hc 0 (by omega)
        obtain ⟨b, off, st⟩ := x
        cases st with
        | none =>
          refine law_some b off cap0 len0 z0 w hz (by omega) hn ?_ (fun t ht => ?_) hwf
          · exact World.block_lt_of_cell? w _ hx
          · have h := hc t (by omega)
            rwa [show (⟨b, off, none⟩ : Addr).add t = ⟨b, off + t, none⟩ by cases t <;> simp [Addr.add]] at h
        | some st =>
          simp only [Addr.add, World.cell?, if_true, Option.isSome_some] at hx
          split at hx <;> cases hx
      · refine (law_long (some x) len0 cap0 w hn hm).mono ?_
        rintro e w' ⟨rfl, rfl⟩
        exact ⟨rfl, Below.refl _ _⟩

/-! ### THE ROW's STEP: WRITTEN OUT: LEAVE IT -/
set_option maxRecDepth 100000 in
theorem lifted (os : Os) (started : os.Started) (H : Type) (enc : TypeId × Value → H) :
    ReturnsInHanded {} Try.checked os 7 .any (Rows.fnMedianIsMiddleOrderStatisticAndSortsItsArgumentSpec.pre6 enc Try.prog Try.f7 Rows.fnMedianIsMiddleOrderStatisticAndSortsItsArgumentRow.domain false) (Rows.fnMedianIsMiddleOrderStatisticAndSortsItsArgumentSpec.post enc Try.prog Try.f7 false true false false) := by
  refine returnsInHanded_of_change (C := Try.checked) own started (by kernel_rfl) Try.func7
    (ChangeSpec.witness6 (enc := enc) (C := Try.checked) false ⟨#[], #[.slice none 0 0], []⟩ 8 (by kernel_rfl) (by kernel_rfl) (by kernel_rfl) (by kernel_rfl)) ?_
  intro W base args ds gs before hval0 hW hcnd _
  have hval : ∀ (j : Nat) t v, Try.f7.params[j]? = some t → args[j]? = some v → Value.okWide Try.prog W .any base t v := hval0
  have hW' := hW
  obtain ⟨p, q, hA0, hV, rfl, hfz, hnd⟩ := hW
  have hA : DataW.TrodAll enc Try.prog W 0 (fun _ => true) true Try.f7.params.toList args.toList ds p := hA0
  rw [Try.params7] at hA hval
  obtain ⟨v0, vs0, d0, ds0, p0, q0, hargs, rfl, rfl, h0, r0⟩ := trodAll_cons hA
  obtain ⟨rfl, rfl, rfl⟩ := trodAll_nil r0
  obtain rfl : args = #[v0] := by cases args; simp_all
  obtain ⟨rfl, rfl⟩ := trodVars_none hV
  obtain ⟨a0, len0, cap0, rfl⟩ := okWide_slice Try.underlying58 (hval 0 58 v0 rfl rfl)
  have k0 := h0
  have lt0 : ∀ x ∈ p0, x.block < W.heap.size := by obtain ⟨m, hm⟩ := k0; exact DataW.trod_lt m _ _ _ hm
  obtain ⟨z0, w0⟩ : ∃ zs, IsRow W a0 len0 cap0 zs := by
    obtain ⟨fuel, hf⟩ := h0
    rcases Go.Deep.open_slice1 Try.underlying58 (by kernel_rfl) hf with ⟨hcs, _⟩ | ⟨a, l, c, m, n, V, D, Pl, hcs, _, hl, hm, hmm, _, hx⟩
    · simp [Value.cells] at hcs
      obtain ⟨rfl, rfl, rfl⟩ := hcs
      exact ⟨[], .inl ⟨rfl, rfl, rfl⟩⟩
    · simp [Value.cells] at hcs
      obtain ⟨rfl, rfl, rfl⟩ := hcs
      have hlm : len0 ≤ m := by rw [hmm]; simpa using hl
      obtain ⟨F, hF⟩ := Go.Deep.choose_lt (α := Nat) (p := fun i b => W.cell? (a.add i) = some (.float .f64 b) ∧ b < 2 ^ 64) (n := len0) (fun i hi => by
        obtain ⟨h1, h2⟩ := hx i (by omega)
        obtain ⟨b, hb, hw⟩ := trod_float Try.underlying61 h2
        simp at hb
        exact ⟨b, by rw [h1, hb], by simpa [Lit.wf] using hw⟩)
      refine ⟨(List.range len0).map F, .inr ⟨a, rfl, by omega, by simp, fun i hi => ?_, fun b hb => ?_⟩⟩
      · rw [(hF i hi).1]; simp [List.getD, hi]
      · obtain ⟨i, hi, rfl⟩ := List.mem_map.1 hb
        exact (hF i (by simpa using hi)).2
  clear hA0 hval0
  refine (walk a0 len0 cap0 z0 W w0).mono fun e W' ⟨he, bel⟩ => ?_
  subst he
  exact ⟨_, rfl, _, _, _, [], _, [], hW', trodAll_mk1 (shut_bool Try.underlying4 _), (trodAll_cons_mk (Below.trod laidOut (by kernel_rfl) (of_decide_eq_true (by kernel_rfl)) k0 bel lt0) trodAll_mk0), rfl, bel.frame _, fun h => by cases h⟩

theorem over : Rows.fnMedianIsMiddleOrderStatisticAndSortsItsArgumentRow.holds Try.pinned (OpenSpec.ofChange Rows.fnMedianIsMiddleOrderStatisticAndSortsItsArgumentSpec) :=
  OpenClaim.holds_of_wide 7 Try.f7 rfl rfl rfl rfl rfl rfl rfl ⟨rfl, rfl, rfl, rfl, rfl⟩ rfl rfl rfl rfl rfl (by kernel_rfl) Try.func7 (by kernel_rfl)
    (of_decide_eq_true (by kernel_rfl)) (by unfold Func.isWrapper; first | (rw [if_pos (by decide +kernel)]; kernel_rfl) | (rw [if_neg (by decide +kernel)]; exact ⟨rfl, rfl⟩))
    (fun os started H enc _ => lifted os started H enc)

/-- ████ THE STATEMENT ████ -/
theorem proved : Rows.FnMedianIsMiddleOrderStatisticAndSortsItsArgumentSaid := over
end Go.Proofs.Qxb6601491a.fnMedianIsMiddleOrderStatisticAndSortsItsArgument
