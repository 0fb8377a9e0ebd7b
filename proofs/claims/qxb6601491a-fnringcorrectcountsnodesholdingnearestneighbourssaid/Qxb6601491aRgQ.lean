/-
  THE TWO COUNTS AGREE.
-/
import Derived.Test.Qxb6601491aRgN
namespace Go.Proofs.Qxb6601491a
open Go.RowKit

theorem held_ok {n M : Nat} {a r : Nat → Nat} (h : Ring n M a r) (L : Nat → List Int) {p : Nat} (hp : p < n) {B C : Best} (hB : BI (fun j => dst M (a (r p)) (a j)) (r p) n B) (hC : BI (fun j => dst M (a j) (a (r p))) (r p) n C) :
    held (L (r p)) B C = okUp L r n p (min 2 (n - 1)) := by
  obtain ⟨b0, b1⟩ := h.cw hp hB
  obtain ⟨c0, c1⟩ := h.ccw hp hC
  unfold held
  rw [b0, b1, c0, c1]
  have nn : ∀ k : Nat, decide ((k : Int) < 0) = false := fun k => by simp
  rcases (show n = 1 ∨ n = 2 ∨ 3 ≤ n by omega) with e | e | e
  · subst e
    simp [okUp]
  · subst e
    have e1 : min 2 (2 - 1) = 1 := rfl
    rw [e1]
    simp only [Nat.le_refl, if_true, show ¬ (3 ≤ 2) by omega, if_false, nn, Bool.false_or, okUp, okStep, Bool.true_and]
    simp
  · have e1 : min 2 (n - 1) = 2 := by omega
    rw [e1]
    simp only [show 2 ≤ n by omega, if_true, e, nn, Bool.false_or, okUp, okStep, Bool.true_and, Nat.zero_add]
    simp only [Bool.and_assoc]

theorem cn_count (p : Nat → Bool) : ∀ n, cn p n = (List.range n).countP p
  | 0 => rfl
  | n + 1 => by
    unfold cn
    rw [List.range_succ, List.countP_append, cn_count p n]
    simp [List.countP_cons]

theorem cn_perm (G : Nat → Bool) (r : Nat → Nat) (n : Nat) (h : ((List.range n).map r).Perm (List.range n)) : cn (fun p => G (r p)) n = cn G n := by
  rw [cn_count, cn_count, ← h.countP_eq G, List.countP_map]
  rfl

/-- The place of a node. -/
theorem ring_inv {n M : Nat} {a r : Nat → Nat} (h : Ring n M a r) : ∃ inv : Nat → Nat, ∀ i, i < n → inv i < n ∧ r (inv i) = i := by
  refine ⟨fun i => if hi : i < n then Classical.choose (h.onto i hi) else 0, fun i hi => ?_⟩
  simp only [hi, dif_pos]
  exact Classical.choose_spec (h.onto i hi)

theorem counts_agree {n M : Nat} {a r : Nat → Nat} (h : Ring n M a r) (hP : ((List.range n).map r).Perm (List.range n)) (L : Nat → List Int) {inv : Nat → Nat} (hi : ∀ i, i < n → inv i < n ∧ r (inv i) = i) (K : Nat) :
    cn (fun i => okUp L r n (inv i) K) n = cn (fun p => okUp L r n p K) n := by
  rw [← cn_perm (fun i => okUp L r n (inv i) K) r n hP]
  refine cn_same n fun p hp => ?_
  have h1 := hi (r p) (h.lt p hp)
  rw [h.inj h1.1 hp h1.2]

/-- Strictly rising, by neighbours. -/
def Up (zs : List Int) : Prop := ∀ k (hk : k + 1 < zs.length), zs[k] < zs[k + 1]

theorem Up.pairwise {zs : List Int} (h : Up zs) : zs.Pairwise (· ≤ ·) := by
  rw [List.pairwise_iff_getElem]
  intro i j hi hj hij
  induction j with
  | zero => omega
  | succ j ih =>
    by_cases e : i = j
    · subst e; exact Int.le_of_lt (h i hj)
    · have := ih (by omega) (by omega)
      have h2 := h j hj
      omega
end Go.Proofs.Qxb6601491a
