/-
  ringCorrect of no node; ZZRingCorrect.
-/
import Derived.Test.Qxb6601491aRgM
namespace Go.Proofs.Qxb6601491a
open Go.RowKit
open Go.Extern.Stop (cell)

theorem bd70 (p : Array (Nat × Value)) : Instr.build 70 p = vbd 70 p := rfl
attribute [local go_sem ↓] bd70

theorem built70g (a : Option Addr) (n : Nat) (b : Option Addr) (m : Nat) : Try.prog.built 70 [(0, .slice a n n), (2, .slice b m m)] = some (gcs a n b m).toArray := by kernel_rfl
theorem build70 (a : Option Addr) (n : Nat) (b : Option Addr) (m : Nat) (w : World) : (vbd 70 #[(0, .slice a n n), (2, .slice b m m)]).run Try.prog w = .ok (aggV (gcs a n b m)) w :=
  run_build w 70 _ _ (built70g a n b m)

theorem sort_none (p : Option Addr) (fv : Value) (w : World) : Calls Try.prog 48 #[.slice p 0 0, fv] w fun e w' => e = .returned (.tuple #[]) ∧ w' = w :=
  AnyF.slices_SortFunc_none (P := Try.prog) (ρ := Try.sortF_ren) { Try.sortF with } p 0 fv w

set_option maxHeartbeats 1000000 in
set_option maxRecDepth 100000 in
theorem ring_none (a : Option Addr) (b : Option Addr) (mL : Nat) (w : World) : Calls Try.prog 39 #[aggV (gcs a 0 b mL)] w fun e w' => e = .returned (.int .i64 0) ∧ Below w.heap.size w w' := by
  obtain ⟨i0, z0, hi, hz0, hz1, hz2⟩ := info_row Try.info3' Try.zero3'
  obtain ⟨gc, hgc⟩ : ∃ gc, gc = gcs a 0 b mL := ⟨_, rfl⟩
  have c0 : (w.alloc (.cells gc.toArray 70)).cell? ⟨w.heap.size, 0, none⟩ = some (.slice a 0 0) := rangeAt_alloc_new w gc 70 0 _ (by rw [hgc]; rfl)
  have HB0 : Hid (Below w.heap.size w (w.alloc (.cells gc.toArray 70))) := (Below.refl _ _).alloc (Nat.le_refl _) _
  have hs0 : (w.alloc (.cells gc.toArray 70)).heap.size = w.heap.size + 1 := by simp
  rw [← hgc]
  clear hgc
  unfold aggV
  go_enter Try.func39, Try.ntmps39
  go_wp2_with (at_make; refine wpList_make_full _ rfl _ _ 41 rfl (w.alloc (.cells gc.toArray 70)).heap.size 3 i0 z0 1 Try.underlying41 hi hz0 hz1 .i64 .i64 _ _ 0 rfl rfl rfl rfl (by rw [hz2]; omega) (by unfold maxLen; omega) (Nat.le_refl _) ?_; intro w1 hown hgrow)
  have HB1 : Hid (Below w.heap.size w w1) := by
    have hb1 : Below (w.alloc (.cells gc.toArray 70)).heap.size (w.alloc (.cells gc.toArray 70)) w1 := (Below.refl _ _).grown hgrow (Nat.le_refl _) (fun k hk => by cases hk)
    rw [hs0] at hb1
    exact HB0.out.trans (hb1.mono (by omega))
  clear hown hgrow hi hz0 hz1 hz2 c0 HB0
  refine wp_loop_rounds 1 ?_
  rw [rounds_succ]
  go_wp2_with fail
  refine (sort_none _ _ _).mono ?_
  rintro e w2 ⟨rfl, rfl⟩
  go_wp2_with fail
  refine wp_loop_rounds 1 ?_
  rw [rounds_succ]
  go_wp2_with fail
  go_ret
  exact ⟨rfl, HB1.out⟩

set_option maxHeartbeats 1000000 in
/-- 'ZZRingCorrect'. -/
theorem zzring_zz (a : Option Addr) (n : Nat) (A : Nat → List UInt8) (b : Option Addr) (mL : Nat) (L : Nat → List Int) (vs : Nat → Value) (w : World) (hn : n ≤ 4096) (hmL : n ≤ mL) (hmL' : mL ≤ 4096) (hA : AdrAt w a n A) (hL : Lsts0 w b mL L vs)
    (hs : ∀ i, i < n → (L i).Pairwise (· ≤ ·)) (hl : ∀ i, i < mL → (L i).length ≤ 131072) (hd : ∀ i j, i < n → j < n → num (A i) = num (A j) → i = j) :
    Calls Try.prog 24 #[.slice a n n, .slice b mL mL] w fun e w' => RingEnd n A L e ∧ Below w.heap.size w w' := by
  have c39 : Calls Try.prog 39 #[aggV (gcs a n b mL)] w fun e w' => RingEnd n A L e ∧ Below w.heap.size w w' := by
    cases n with
    | zero =>
      refine (ring_none a b mL w).mono ?_
      rintro e w' ⟨rfl, hb⟩
      exact ⟨⟨id, ⟨fun p hp => absurd hp (Nat.not_lt_zero _), fun p q _ hq => absurd hq (Nat.not_lt_zero _), fun j hj => absurd hj (Nat.not_lt_zero _), fun j hj => absurd hj (Nat.not_lt_zero _)⟩, List.Perm.refl _, rfl⟩, hb⟩
    | succ m =>
      obtain ⟨ab, ao, rfl, -⟩ := hA.at (by omega)
      exact ring_zz m ab ao A b mL L vs w (by omega) hmL hmL' hA hL hs hl hd
  have bd := build70 a n b mL w
  clear hA hL hs hl hd
  go_enter Try.func24, Try.ntmps24
  go_wp2_with fail
  refine c39.mono ?_
  rintro e w2 ⟨⟨r, h1, h2, rfl⟩, hb⟩
  have HE : Hid (RingEnd n A L (.returned (.int .i64 (cn (fun p => okUp L r n p (min 2 (n - 1))) n : Nat)))) := ⟨r, h1, h2, rfl⟩
  have HB : Hid (Below w.heap.size w w2) := hb
  clear h1 h2 hb c39
  go_wp2_with fail
  go_ret
  exact ⟨HE.out, HB.out⟩
end Go.Proofs.Qxb6601491a
