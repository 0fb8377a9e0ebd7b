/-
  THE PLAIN LAW OF THE MEDIAN: ranks in a list, by its sorted rearrangement. No Go in sight.
-/
import Derived.Test.Qxb6601491aFltD
namespace Go.Proofs.Qxb6601491a
open Fl

theorem cnt_countP (f : Nat → Bool) (zs : List Nat) (G : Nat → Nat) : ∀ k, k ≤ zs.length → (∀ t, t < k → G t = zs.getD t 0) → cnt (fun i => f (G i)) k = (zs.take k).countP f := by
  intro k
  induction k with
  | zero => intro _ _; simp [cnt]
  | succ k ih =>
    intro hk hG
    rw [List.take_succ_eq_append_getElem (by omega), List.countP_append, ← ih (by omega) (fun t ht => hG t (by omega))]
    have e : G k = zs[k] := by rw [hG k (by omega)]; simp [List.getD, show k < zs.length by omega]
    simp only [cnt, e, List.countP_cons, List.countP_nil]
    omega

theorem cnt_all (f : Nat → Bool) (zs : List Nat) (G : Nat → Nat) (hG : ∀ t, t < zs.length → G t = zs.getD t 0) : cnt (fun i => f (G i)) zs.length = zs.countP f := by
  rw [cnt_countP f zs G _ (Nat.le_refl _) hG, List.take_length]

theorem countP_ge (p : Nat → Bool) (ss : List Nat) (m : Nat) (hm : m ≤ ss.length) (h : ∀ i (hi : i < ss.length), i < m → p ss[i] = true) : m ≤ ss.countP p := by
  have e : ss.countP p = (ss.take m).countP p + (ss.drop m).countP p := by rw [← List.countP_append, List.take_append_drop]
  have e2 : (ss.take m).countP p = (ss.take m).length := by
    rw [List.countP_eq_length]
    intro a ha
    obtain ⟨i, hi, rfl⟩ := List.getElem_of_mem ha
    rw [List.length_take] at hi
    rw [List.getElem_take]
    exact h i (by omega) (by omega)
  rw [List.length_take] at e2
  omega

theorem countP_lt (p : Nat → Bool) (ss : List Nat) (m : Nat) (h : ∀ i (hi : i < ss.length), m ≤ i → p ss[i] = false) : ss.countP p ≤ m := by
  have e : ss.countP p = (ss.take m).countP p + (ss.drop m).countP p := by rw [← List.countP_append, List.take_append_drop]
  have e2 : (ss.drop m).countP p = 0 := by
    rw [List.countP_eq_zero]
    intro a ha
    obtain ⟨i, hi, rfl⟩ := List.getElem_of_mem ha
    rw [List.length_drop] at hi
    rw [List.getElem_drop]
    rw [h (m + i) (by omega) (by omega)]
    simp
  have : (ss.take m).countP p ≤ (ss.take m).length := List.countP_le_length
  rw [List.length_take] at this
  omega

theorem lt_of_sorted {ss : List Nat} (hs : ss.Pairwise (fun x y => ltF y x = false)) {i j : Nat} (hi : i < ss.length) (hj : j < ss.length) (h : i ≤ j) : ltF ss[j] ss[i] = false := by
  by_cases e : i = j
  · subst e; rw [ltF_key]; exact klt_irrefl _
  · exact List.pairwise_iff_getElem.1 hs i j hi hj (by omega)

theorem below_eq {zs ss : List Nat} {G : Nat → Nat} (hp : ss.Perm zs) (hG : ∀ t, t < zs.length → G t = zs.getD t 0) (c : Nat) : below G c zs.length = ss.countP (fun u => ltF u (G c)) := by
  unfold below
  rw [cnt_all (fun u => ltF u (G c)) zs G hG, hp.countP_eq]

theorem upTo_eq {zs ss : List Nat} {G : Nat → Nat} (hp : ss.Perm zs) (hG : ∀ t, t < zs.length → G t = zs.getD t 0) (c : Nat) : upTo G c zs.length = ss.countP (fun u => !ltF (G c) u) := by
  unfold upTo
  rw [cnt_all (fun u => !ltF (G c) u) zs G hG, hp.countP_eq]

/-- Some place holds the k-th. -/
theorem kth_exists {zs ss : List Nat} {G : Nat → Nat} (hp : ss.Perm zs) (hs : ss.Pairwise (fun x y => ltF y x = false)) (hG : ∀ t, t < zs.length → G t = zs.getD t 0) {k : Nat} (hk : k < zs.length) : ∃ c, c < zs.length ∧ below G c zs.length ≤ k ∧ k < upTo G c zs.length := by
  have hl : ss.length = zs.length := hp.length_eq
  have hk' : k < ss.length := by omega
  obtain ⟨c, hc, e⟩ := List.getElem_of_mem (hp.mem_iff.1 (List.getElem_mem hk'))
  have eG : G c = ss[k] := by rw [hG c hc]; simp [List.getD, hc, e]
  refine ⟨c, hc, ?_, ?_⟩
  · rw [below_eq hp hG, eG]
    exact countP_lt _ _ _ fun i hi h => lt_of_sorted hs hk' hi h
  · rw [upTo_eq hp hG, eG]
    refine countP_ge _ _ (k + 1) (by omega) fun i hi h => ?_
    simp [lt_of_sorted hs hi hk' (by omega)]

/-- Whatever place holds the k-th has the key of the sorted list's. -/
theorem kth_key {zs ss : List Nat} {G : Nat → Nat} (hp : ss.Perm zs) (hs : ss.Pairwise (fun x y => ltF y x = false)) (hG : ∀ t, t < zs.length → G t = zs.getD t 0) {k c : Nat} (hk : k < zs.length) (h1 : below G c zs.length ≤ k) (h2 : k < upTo G c zs.length) : key (G c) = key (ss.getD k 0) := by
  have hl : ss.length = zs.length := hp.length_eq
  have hk' : k < ss.length := by omega
  have e : ss.getD k 0 = ss[k] := by simp [List.getD, hk']
  rw [e]
  refine klt_tri ?_ ?_
  · cases a : klt (key (G c)) (key ss[k]) with
    | false => rfl
    | true =>
      exfalso
      rw [upTo_eq hp hG] at h2
      have := countP_lt (fun u => !ltF (G c) u) ss k fun i hi h => by
        have g := lt_of_sorted hs hk' hi h
        rw [ltF_key] at g
        cases b : klt (key (G c)) (key ss[i]) with
        | true => rw [ltF_key, b]; rfl
        | false => rw [klt_ntrans b g] at a; cases a
      omega
  · cases a : klt (key ss[k]) (key (G c)) with
    | false => rfl
    | true =>
      exfalso
      rw [below_eq hp hG] at h1
      have := countP_ge (fun u => ltF u (G c)) ss (k + 1) (by omega) fun i hi h => by
        have g := lt_of_sorted hs hi hk' (by omega : i ≤ k)
        rw [ltF_key] at g
        rw [ltF_key]
        cases b : klt (key ss[i]) (key (G c)) with
        | true => rfl
        | false => rw [klt_ntrans g b] at a; cases a
      omega
end Go.Proofs.Qxb6601491a
