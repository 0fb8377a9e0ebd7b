/-
  THE LAW FnMedianIsMiddleOrderStatisticAndSortsItsArgument, WALKED.
-/
import Derived.Test.Qxb6601491aMed
import Derived.Deep.RegionWith
namespace Go.Proofs.Qxb6601491a
open Go.RowKit Go.Sort Fl

theorem bytes_yes (a : Option Addr) (n cap : Nat) (w : World) (h : n ≤ 1048576) : Calls Try.prog 28 #[.slice a n cap] w fun e w' => e = .returned (.bool true) ∧ w' = w := by
  go_enter Try.func28, Try.ntmps28
  go_wp2
  go_ret
  exact ⟨rfl, rfl⟩

theorem bytes_no (a : Option Addr) (n cap : Nat) (w : World) (h : ¬ n ≤ 1048576) (hn : n ≤ maxLen) : Calls Try.prog 28 #[.slice a n cap] w fun e w' => e = .returned (.bool false) ∧ w' = w := by
  unfold maxLen at hn
  go_enter Try.func28, Try.ntmps28
  go_wp2
  go_ret
  exact ⟨rfl, rfl⟩

/-- Longer than the law looks at: true at once. -/
theorem law_long (a : Option Addr) (n cap : Nat) (w : World) (h : ¬ n ≤ 4096) (hn : n ≤ maxLen) : Calls Try.prog 7 #[.slice a n cap] w fun e w' => e = .returned (.bool true) ∧ w' = w := by
  unfold maxLen at hn
  by_cases hb : n ≤ 1048576
  · go_enter Try.func7, Try.ntmps7
    go_wp2_with (go_at_call 28; refine (bytes_yes _ _ _ _ hb).mono ?_; rintro e w' ⟨rfl, rfl⟩)
    go_ret
    exact ⟨rfl, rfl⟩
  · go_enter Try.func7, Try.ntmps7
    go_wp2_with (go_at_call 28; refine (bytes_no _ _ _ _ hb hn).mono ?_; rintro e w' ⟨rfl, rfl⟩)
    go_ret
    exact ⟨rfl, rfl⟩

/-- 'zzCloneFloats' of nil, and of an empty slice that is not nil. -/
theorem clone_none (a : Option Addr) (cap : Nat) (w : World) (ha : a = none → cap = 0) :
    Calls Try.prog 29 #[.slice a 0 cap] w fun e w' => ∃ b, e = .returned (.slice b 0 0) ∧ Below w.heap.size w w' := by
  cases a with
  | none =>
    obtain rfl := ha rfl
    clear ha
    have hnil := fun w => Lib.run_eql_slice_nil (P := Try.prog) w 58 61 none 0 0 0 0 Try.underlying58
    go_enter Try.func29, Try.ntmps29
    go_wp2
    go_ret
    exact ⟨none, rfl, Below.refl _ _⟩
  | some a =>
    clear ha
    obtain ⟨i0, hi, hz0, hz1, hz2⟩ := info_parts Try.info61
    have hnil := fun w => Lib.run_eql_slice_nil (P := Try.prog) w 58 61 (some a) 0 cap 0 0 Try.underlying58
    go_enter Try.func29, Try.ntmps29
    go_wp2_with (at_make; refine wpList_make_full _ rfl _ _ 58 rfl w.heap.size 61 i0 (.float .f64 0) 1 Try.underlying58 hi hz0 hz1 .i64 .i64 _ _ 0 rfl rfl rfl rfl (by rw [hz2]; omega) (by unfold maxLen; omega) (Nat.le_refl _) ?_; intro w1 hown hgrow)
    have hb0 : Below w.heap.size w w1 := (Below.refl _ _).grown hgrow (Nat.le_refl _) (fun k hk => by cases hk)
    clear hown hgrow hi hz0 hz1 hz2 hnil
    refine wp_loop_rounds 1 ?_
    rw [rounds_succ]
    go_wp2
    go_ret
    exact ⟨_, rfl, hb0⟩

set_option maxHeartbeats 400000 in
/-- The law at no value. -/
theorem law_none (a : Option Addr) (cap : Nat) (w : World) (ha : a = none → cap = 0) :
    Calls Try.prog 7 #[.slice a 0 cap] w fun e w' => e = .returned (.bool true) ∧ Below w.heap.size w w' := by
  have hz : (FloatKind.f64.format.order 0 0 != some Ordering.eq) = false := by decide
  have hneg : ∀ w, Calls Try.prog 31 #[.float .f64 0] w fun e w' => e = .returned (.bool false) ∧ w' = w := fun w => by
    have h := negz_zz 0 (by decide) w
    rwa [show negz 0 = false by decide] at h
  have c1 := clone_none a cap w ha
  clear ha
  go_enter Try.func7, Try.ntmps7
  go_wp2_with (go_at_call 28; refine (bytes_yes _ _ _ _ (by omega)).mono ?_; rintro e w' ⟨rfl, rfl⟩)
  refine c1.mono ?_
  rintro e w1 ⟨b1, rfl, hb1⟩
  have c2 := clone_none b1 0 w1 (fun _ => rfl)
  clear c1
  go_wp2_with fail
  refine c2.mono ?_
  rintro e w2 ⟨b2, rfl, hb2⟩
  have hb : Below w'.heap.size w' w2 := hb1.trans (hb2.mono hb1.size)
  clear c2 hb1 hb2
  go_wp2_with fail
  refine (median_none _ _ _).mono ?_
  rintro e w3 ⟨rfl, rfl⟩
  go_wp2_with fail
  refine (hneg _).mono ?_
  rintro e w3 ⟨rfl, rfl⟩
  go_wp2_with fail
  refine wp_loop_rounds 1 ?_
  rw [rounds_succ]
  go_wp2_with fail
  refine wp_loop_rounds 1 ?_
  rw [rounds_succ]
  go_wp2_with fail
  go_ret
  exact ⟨rfl, hb⟩
end Go.Proofs.Qxb6601491a
