/-
  THE SMALL FUNCTIONS ON float64, WALKED: cmp.isNaN, cmp.Less (the library's); zzIsNaN, zzLess, zzSameValue, zzIsNegZero, zzSameClass (the law's own).
-/
import Derived.Test.Qxb6601491aProg
import Derived.Test.Qxb6601491aFloat
import Derived.WalkKit
import Derived.WalkSpells
import Derived.WalkLawsBesides
import Derived.Laws.FloatArith
namespace Go.Proofs.Qxb6601491a
open Go.RowKit Fl

/-- A float stored into a cell: beside the kit's laws at integers, bools, strings. -/
theorem run_store_float {P : Program} (w : World) (a : Addr) (m : Mode) (k : FloatKind) (n : Nat) : (store a (.float k n) m).run P w = stored P w a (.float k n) m := run_store P w a _ m rfl

theorem nan_lib (x : Nat) (w : World) : Calls Try.prog 102 #[.float .f64 x] w fun e w' => e = .returned (.bool (nanF x)) ∧ w' = w := by
  go_enter Try.func102, Try.ntmps102
  go_wp2
  go_ret
  exact ⟨rfl, rfl⟩

theorem nan_zz (x : Nat) (w : World) : Calls Try.prog 43 #[.float .f64 x] w fun e w' => e = .returned (.bool (nanF x)) ∧ w' = w := by
  go_enter Try.func43, Try.ntmps43
  go_wp2
  go_ret
  exact ⟨rfl, rfl⟩

theorem less_lib (x y : Nat) (w : World) : Calls Try.prog 87 #[.float .f64 x, .float .f64 y] w fun e w' => e = .returned (.bool (ltF x y)) ∧ w' = w := by
  unfold ltF
  generalize hx : nanF x = nx
  generalize hy : nanF y = ny
  have cx : ∀ w, Calls Try.prog 102 #[.float .f64 x] w fun e w' => e = .returned (.bool nx) ∧ w' = w := by rw [← hx]; exact nan_lib x
  have cy : ∀ w, Calls Try.prog 102 #[.float .f64 y] w fun e w' => e = .returned (.bool ny) ∧ w' = w := by rw [← hy]; exact nan_lib y
  clear hx hy
  cases nx
  · go_enter Try.func87, Try.ntmps87
    go_wp2_with fail
    refine (cx _).mono ?_
    rintro e w' ⟨rfl, rfl⟩
    go_wp2_with fail
    go_ret
    exact ⟨by simp [lssF], rfl⟩
  · go_enter Try.func87, Try.ntmps87
    go_wp2_with fail
    refine (cx _).mono ?_
    rintro e w' ⟨rfl, rfl⟩
    go_wp2_with fail
    refine (cy _).mono ?_
    rintro e w' ⟨rfl, rfl⟩
    cases ny
    · go_wp2_with fail
      go_ret
      exact ⟨rfl, rfl⟩
    · go_wp2_with fail
      go_ret
      exact ⟨rfl, rfl⟩
end Go.Proofs.Qxb6601491a
