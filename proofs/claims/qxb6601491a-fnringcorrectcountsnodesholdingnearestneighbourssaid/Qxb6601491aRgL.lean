/-
  THE PLAIN LAW OF THE RING: the nearest by distance are the neighbours in the sorted ring.
-/
import Derived.Test.Qxb6601491aRgD
namespace Go.Proofs.Qxb6601491a

/-- The distance clockwise from x to y, on a ring of M places. -/
def dst (M x y : Nat) : Nat := if x ≤ y then y - x else y + M - x

theorem dst_of {M x y d c : Nat} (hx : x < M) (hd : d < M) (h : d + x = y + c * M) : d = dst M x y := by
  unfold dst
  rcases Nat.lt_or_ge c 2 with hc | hc
  · rcases (show c = 0 ∨ c = 1 by omega) with rfl | rfl
    · rw [Nat.zero_mul] at h
      split <;> omega
    · rw [Nat.one_mul] at h
      split <;> omega
  · have := Nat.mul_le_mul_right M hc
    omega

/-- WHAT THE TWO BEST ARE, once the nodes below J have been looked at (node i left out). -/
def BI (f : Nat → Nat) (i J : Nat) (B : Best) : Prop :=
  B.ok ∧ ((B.b0 = -1 ∧ B.b1 = -1 ∧ ∀ j, j < J → j = i) ∨
    ∃ j0, j0 < J ∧ j0 ≠ i ∧ B.b0 = (j0 : Int) ∧ num B.d0 = f j0 ∧ (∀ j, j < J → j ≠ i → f j0 ≤ f j) ∧
      ((B.b1 = -1 ∧ ∀ j, j < J → j ≠ i → j = j0) ∨
        ∃ j1, j1 < J ∧ j1 ≠ i ∧ j1 ≠ j0 ∧ B.b1 = (j1 : Int) ∧ num B.d1 = f j1 ∧ ∀ j, j < J → j ≠ i → j ≠ j0 → f j1 ≤ f j))

theorem BI.skip {f : Nat → Nat} {i : Nat} {B : Best} (h : BI f i i B) : BI f i (i + 1) B := by
  obtain ⟨hB, h⟩ := h
  refine ⟨hB, ?_⟩
  rcases h with ⟨h1, h2, h3⟩ | ⟨j0, h1, h2, h3, h4, h5, h6⟩
  · exact .inl ⟨h1, h2, fun j hj => by by_cases e : j = i; exact e; exact h3 j (by omega)⟩
  · refine .inr ⟨j0, by omega, h2, h3, h4, fun j hj hne => h5 j (by omega) hne, ?_⟩
    rcases h6 with ⟨h6, h7⟩ | ⟨j1, k1, k2, k3, k4, k5, k6⟩
    · exact .inl ⟨h6, fun j hj hne => h7 j (by omega) hne⟩
    · exact .inr ⟨j1, by omega, k2, k3, k4, k5, fun j hj hne hn0 => k6 j (by omega) hne hn0⟩

theorem BI.step {f : Nat → Nat} {i J : Nat} {B : Best} (h : BI f i J B) (hJ : J ≠ i) {d : List UInt8} (hd : d.length = 20) (hn : num d = f J) : BI f i (J + 1) (ins B J d) := by
  obtain ⟨hB, h⟩ := h
  have l0 : lessB d B.d0 = decide (num d < num B.d0) := lessB_num d B.d0 (by rw [hd, hB.1])
  have l1 : lessB d B.d1 = decide (num d < num B.d1) := lessB_num d B.d1 (by rw [hd, hB.2])
  unfold ins
  rw [l0, l1]
  rcases h with ⟨h1, h2, h3⟩ | ⟨j0, h1, h2, h3, h4, h5, h6⟩
  · rw [if_pos (.inl (by omega))]
    refine ⟨⟨hd, hB.1⟩, .inr ⟨J, by omega, hJ, rfl, hn, fun j hj hne => ?_, .inl ⟨h1, fun j hj hne => ?_⟩⟩⟩
    · by_cases e : j = J
      · subst e; exact Nat.le_refl _
      · exact absurd (h3 j (by omega)) hne
    · by_cases e : j = J
      · exact e
      · exact absurd (h3 j (by omega)) hne
  · by_cases c0 : num d < num B.d0
    · rw [if_pos (.inr (decide_eq_true c0))]
      rw [hn, h4] at c0
      refine ⟨⟨hd, hB.1⟩, .inr ⟨J, by omega, hJ, rfl, hn, fun j hj hne => ?_, .inr ⟨j0, by omega, h2, by omega, h3, h4, fun j hj hne hn0 => h5 j (by omega) hne⟩⟩⟩
      by_cases e : j = J
      · subst e; exact Nat.le_refl _
      · have := h5 j (by omega) hne; omega
    · rw [if_neg (by rintro (h | h); omega; exact c0 (of_decide_eq_true h))]
      rw [hn, h4] at c0
      have key : ∀ j, j < J + 1 → j ≠ i → f j0 ≤ f j := fun j hj hne => by
        by_cases e : j = J
        · subst e; omega
        · exact h5 j (by omega) hne
      rcases h6 with ⟨h6, h7⟩ | ⟨j1, k1, k2, k3, k4, k5, k6⟩
      · rw [if_pos (.inl (by omega))]
        refine ⟨⟨hB.1, hd⟩, .inr ⟨j0, by omega, h2, h3, h4, key, .inr ⟨J, by omega, hJ, by omega, rfl, hn, fun j hj hne hn0 => ?_⟩⟩⟩
        by_cases e : j = J
        · subst e; exact Nat.le_refl _
        · exact absurd (h7 j (by omega) hne) hn0
      · by_cases c1 : num d < num B.d1
        · rw [if_pos (.inr (decide_eq_true c1))]
          rw [hn, k5] at c1
          refine ⟨⟨hB.1, hd⟩, .inr ⟨j0, by omega, h2, h3, h4, key, .inr ⟨J, by omega, hJ, by omega, rfl, hn, fun j hj hne hn0 => ?_⟩⟩⟩
          by_cases e : j = J
          · subst e; exact Nat.le_refl _
          · have := k6 j (by omega) hne hn0; omega
        · rw [if_neg (by rintro (h | h); omega; exact c1 (of_decide_eq_true h))]
          rw [hn, k5] at c1
          refine ⟨hB, .inr ⟨j0, by omega, h2, h3, h4, key, .inr ⟨j1, by omega, k2, k3, k4, k5, fun j hj hne hn0 => ?_⟩⟩⟩
          by_cases e : j = J
          · subst e; omega
          · exact k6 j (by omega) hne hn0

/-- At the end: which they are. -/
theorem BI.final {f : Nat → Nat} {i n : Nat} {B : Best} (h : BI f i n B) (hi : i < n) (inj : ∀ j k, j < n → k < n → j ≠ i → k ≠ i → f j = f k → j = k) (g1 g2 : Nat)
    (h1 : 2 ≤ n → g1 < n ∧ g1 ≠ i ∧ ∀ j, j < n → j ≠ i → f g1 ≤ f j) (h2 : 3 ≤ n → g2 < n ∧ g2 ≠ i ∧ g2 ≠ g1 ∧ ∀ j, j < n → j ≠ i → j ≠ g1 → f g2 ≤ f j) :
    B.b0 = (if 2 ≤ n then (g1 : Int) else -1) ∧ B.b1 = (if 3 ≤ n then (g2 : Int) else -1) := by
  obtain ⟨-, h⟩ := h
  by_cases hn : 2 ≤ n
  · obtain ⟨a1, a2, a3⟩ := h1 hn
    rw [if_pos hn]
    rcases h with ⟨-, -, h⟩ | ⟨j0, k1, k2, k3, -, k5, k6⟩
    · exact absurd (h g1 a1) a2
    · have e0 : j0 = g1 := inj j0 g1 k1 a1 k2 a2 (Nat.le_antisymm (k5 g1 a1 a2) (a3 j0 k1 k2))
      subst e0
      refine ⟨k3, ?_⟩
      by_cases hn3 : 3 ≤ n
      · obtain ⟨b1, b2, b3, b4⟩ := h2 hn3
        rw [if_pos hn3]
        rcases k6 with ⟨-, k7⟩ | ⟨j1, c1, c2, c3, c4, -, c6⟩
        · exact absurd (k7 g2 b1 b2) b3
        · have e1 : j1 = g2 := inj j1 g2 c1 b1 c2 b2 (Nat.le_antisymm (c6 g2 b1 b2 b3) (b4 j1 c1 c2 c3))
          rw [c4, e1]
      · rw [if_neg hn3]
        rcases k6 with ⟨k6, -⟩ | ⟨j1, c1, c2, c3, -⟩
        · exact k6
        · exfalso; omega
  · rw [if_neg hn, if_neg (by omega)]
    rcases h with ⟨h1, h2, -⟩ | ⟨j0, k1, k2, -⟩
    · exact ⟨h1, h2⟩
    · exfalso; omega

/-- THE RING: p ↦ r p lists the n nodes, by rising address. -/
structure Ring (n M : Nat) (a r : Nat → Nat) : Prop where
  lt : ∀ p, p < n → r p < n
  up : ∀ p q, p < q → q < n → a (r p) < a (r q)
  onto : ∀ j, j < n → ∃ p, p < n ∧ r p = j
  small : ∀ j, j < n → a j < M

section
variable {n M : Nat} {a r : Nat → Nat}

theorem Ring.inj (h : Ring n M a r) {p q : Nat} (hp : p < n) (hq : q < n) (e : r p = r q) : p = q := by
  rcases Nat.lt_trichotomy p q with l | l | l
  · have := h.up p q l hq; rw [e] at this; omega
  · exact l
  · have := h.up q p l hp; rw [e] at this; omega

theorem Ring.ainj (h : Ring n M a r) {j k : Nat} (hj : j < n) (hk : k < n) (e : a j = a k) : j = k := by
  obtain ⟨p, hp, rfl⟩ := h.onto j hj
  obtain ⟨q, hq, rfl⟩ := h.onto k hk
  rcases Nat.lt_trichotomy p q with l | l | l
  · have := h.up p q l hq; omega
  · rw [l]
  · have := h.up q p l hp; omega

theorem Ring.cw (h : Ring n M a r) {p : Nat} (hp : p < n) {B : Best} (hB : BI (fun j => dst M (a (r p)) (a j)) (r p) n B) :
    B.b0 = (if 2 ≤ n then (r ((p + 1) % n) : Int) else -1) ∧ B.b1 = (if 3 ≤ n then (r ((p + 2) % n) : Int) else -1) := by
  have hn : 0 < n := by omega
  have hs := fun q hq => h.small (r q) (h.lt q hq)
  have sp := hs p hp
  refine hB.final (h.lt p hp) (fun j k hj hk hji hki e => ?_) _ _ (fun h2 => ?_) (fun h3 => ?_)
  · have e1 := h.small j hj
    have e2 := h.small k hk
    refine h.ainj hj hk ?_
    unfold dst at e
    split at e <;> split at e <;> omega
  · have hq := Nat.mod_lt (p + 1) hn
    have hne : (p + 1) % n ≠ p := by
      by_cases e : p + 1 < n
      · rw [Nat.mod_eq_of_lt e]; omega
      · rw [show p + 1 = n by omega, Nat.mod_self]; omega
    refine ⟨h.lt _ hq, fun e => hne (h.inj hq hp e), fun j hj hji => ?_⟩
    obtain ⟨q, hqn, rfl⟩ := h.onto j hj
    have hqp : q ≠ p := fun e => hji (by rw [e])
    have s1 := hs q hqn
    show dst M (a (r p)) (a (r ((p + 1) % n))) ≤ dst M (a (r p)) (a (r q))
    unfold dst
    by_cases e : p + 1 < n
    · rw [Nat.mod_eq_of_lt e]
      have u1 := h.up p (p + 1) (by omega) e
      have s2 := hs (p + 1) e
      rw [if_pos (by omega)]
      rcases Nat.lt_trichotomy q (p + 1) with l | l | l
      · have := h.up q p (by omega) hp
        rw [if_neg (by omega)]; omega
      · subst l; rw [if_pos (by omega)]; omega
      · have := h.up (p + 1) q l hqn
        rw [if_pos (by omega)]; omega
    · rw [show p + 1 = n by omega, Nat.mod_self]
      have u1 := h.up 0 p (by omega) hp
      rw [if_neg (by omega)]
      have := h.up q p (by omega) hp
      rw [if_neg (by omega)]
      by_cases l : q = 0
      · subst l; omega
      · have := h.up 0 q (by omega) hqn; omega
  · have hq1 := Nat.mod_lt (p + 1) hn
    have hq2 := Nat.mod_lt (p + 2) hn
    have m1 : (p + 1) % n = if p + 1 < n then p + 1 else 0 := by
      split
      · rename_i e; exact Nat.mod_eq_of_lt e
      · rw [show p + 1 = n by omega, Nat.mod_self]
    have m2 : (p + 2) % n = if p + 2 < n then p + 2 else if p + 2 = n then 0 else 1 := by
      split
      · rename_i e; exact Nat.mod_eq_of_lt e
      · split
        · rename_i e; rw [e, Nat.mod_self]
        · rw [show p + 2 = n + 1 by omega, Nat.add_mod_left, Nat.mod_eq_of_lt (by omega)]
    refine ⟨h.lt _ hq2, fun e => ?_, fun e => ?_, fun j hj hji hj1 => ?_⟩
    · have := h.inj hq2 hp e
      rw [m2] at this; split at this <;> (try split at this) <;> omega
    · have := h.inj hq2 hq1 e
      rw [m1, m2] at this; split at this <;> (try split at this) <;> (try split at this) <;> omega
    · obtain ⟨q, hqn, rfl⟩ := h.onto j hj
      have hqp : q ≠ p := fun e => hji (by rw [e])
      have hq1 : q ≠ (p + 1) % n := fun e => hj1 (by rw [e])
      have s1 := hs q hqn
      show dst M (a (r p)) (a (r ((p + 2) % n))) ≤ dst M (a (r p)) (a (r q))
      unfold dst
      rw [m1] at hq1
      rw [m2]
      by_cases e : p + 2 < n
      · rw [if_pos (show p + 1 < n by omega)] at hq1
        rw [if_pos e]
        have u1 := h.up p (p + 2) (by omega) e
        have s2 := hs (p + 2) e
        rw [if_pos (by omega)]
        rcases Nat.lt_trichotomy q (p + 2) with l | l | l
        · have := h.up q p (by omega) hp
          rw [if_neg (by omega)]; omega
        · subst l; rw [if_pos (by omega)]; omega
        · have := h.up (p + 2) q l hqn
          rw [if_pos (by omega)]; omega
      · rw [if_neg e]
        by_cases e2 : p + 2 = n
        · rw [if_pos (show p + 1 < n by omega)] at hq1
          rw [if_pos e2]
          have u1 := h.up 0 p (by omega) hp
          rw [if_neg (by omega)]
          have := h.up q p (by omega) hp
          rw [if_neg (by omega)]
          by_cases l : q = 0
          · subst l; omega
          · have := h.up 0 q (by omega) hqn; omega
        · rw [if_neg (show ¬ p + 1 < n by omega)] at hq1
          rw [if_neg e2]
          have u1 := h.up 1 p (by omega) hp
          rw [if_neg (by omega)]
          have := h.up q p (by omega) hp
          rw [if_neg (by omega)]
          by_cases l : q = 1
          · subst l; omega
          · have := h.up 1 q (by omega) hqn; omega

theorem Ring.ccw (h : Ring n M a r) {p : Nat} (hp : p < n) {B : Best} (hB : BI (fun j => dst M (a j) (a (r p))) (r p) n B) :
    B.b0 = (if 2 ≤ n then (r ((p + n - 1) % n) : Int) else -1) ∧ B.b1 = (if 3 ≤ n then (r ((p + n - 2) % n) : Int) else -1) := by
  have hn : 0 < n := by omega
  have hs := fun q hq => h.small (r q) (h.lt q hq)
  have sp := hs p hp
  have m1 : (p + n - 1) % n = if 1 ≤ p then p - 1 else n - 1 := by
    split
    · rw [show p + n - 1 = n + (p - 1) by omega, Nat.add_mod_left, Nat.mod_eq_of_lt (by omega)]
    · rw [show p + n - 1 = n - 1 by omega, Nat.mod_eq_of_lt (by omega)]
  refine hB.final (h.lt p hp) (fun j k hj hk hji hki e => ?_) _ _ (fun h2 => ?_) (fun h3 => ?_)
  · have e1 := h.small j hj
    have e2 := h.small k hk
    refine h.ainj hj hk ?_
    unfold dst at e
    split at e <;> split at e <;> omega
  · have hq := Nat.mod_lt (p + n - 1) hn
    have hne : (p + n - 1) % n ≠ p := by rw [m1]; split <;> omega
    refine ⟨h.lt _ hq, fun e => hne (h.inj hq hp e), fun j hj hji => ?_⟩
    obtain ⟨q, hqn, rfl⟩ := h.onto j hj
    have hqp : q ≠ p := fun e => hji (by rw [e])
    have s1 := hs q hqn
    show dst M (a (r ((p + n - 1) % n))) (a (r p)) ≤ dst M (a (r q)) (a (r p))
    unfold dst
    rw [m1]
    by_cases e : 1 ≤ p
    · rw [if_pos e]
      have u1 := h.up (p - 1) p (by omega) hp
      rw [if_pos (by omega)]
      rcases Nat.lt_trichotomy q p with l | l | l
      · rw [if_pos (by have := h.up q p l hp; omega)]
        by_cases l2 : q = p - 1
        · subst l2; omega
        · have := h.up q (p - 1) (by omega) (by omega); omega
      · exact absurd l hqp
      · have := h.up p q l hqn
        rw [if_neg (by omega)]; omega
    · rw [if_neg e]
      have u1 := h.up p (n - 1) (by omega) (by omega)
      rw [if_neg (by omega)]
      have := h.up p q (by omega) hqn
      rw [if_neg (by omega)]
      by_cases l : q = n - 1
      · subst l; omega
      · have := h.up q (n - 1) (by omega) (by omega); omega
  · have hq1 := Nat.mod_lt (p + n - 1) hn
    have hq2 := Nat.mod_lt (p + n - 2) hn
    have m2 : (p + n - 2) % n = if 2 ≤ p then p - 2 else p + n - 2 := by
      split
      · rw [show p + n - 2 = n + (p - 2) by omega, Nat.add_mod_left, Nat.mod_eq_of_lt (by omega)]
      · rw [Nat.mod_eq_of_lt (by omega)]
    refine ⟨h.lt _ hq2, fun e => ?_, fun e => ?_, fun j hj hji hj1 => ?_⟩
    · have := h.inj hq2 hp e
      rw [m2] at this; split at this <;> omega
    · have := h.inj hq2 hq1 e
      rw [m1, m2] at this; split at this <;> (try split at this) <;> omega
    · obtain ⟨q, hqn, rfl⟩ := h.onto j hj
      have hqp : q ≠ p := fun e => hji (by rw [e])
      have hq1 : q ≠ (p + n - 1) % n := fun e => hj1 (by rw [e])
      have s1 := hs q hqn
      show dst M (a (r ((p + n - 2) % n))) (a (r p)) ≤ dst M (a (r q)) (a (r p))
      unfold dst
      rw [m1] at hq1
      rw [m2]
      by_cases e : 2 ≤ p
      · rw [if_pos (show 1 ≤ p by omega)] at hq1
        rw [if_pos e]
        have u1 := h.up (p - 2) p (by omega) hp
        rw [if_pos (by omega)]
        rcases Nat.lt_trichotomy q p with l | l | l
        · rw [if_pos (by have := h.up q p l hp; omega)]
          by_cases l2 : q = p - 2
          · subst l2; omega
          · have := h.up q (p - 2) (by omega) (by omega); omega
        · exact absurd l hqp
        · have := h.up p q l hqn
          rw [if_neg (by omega)]; omega
      · rw [if_neg e]
        have u1 := h.up p (p + n - 2) (by omega) (by omega)
        rw [if_neg (by omega)]
        rcases Nat.lt_trichotomy q p with l | l | l
        · exfalso; rw [if_pos (show 1 ≤ p by omega)] at hq1; omega
        · exact absurd l hqp
        · have := h.up p q l hqn
          rw [if_neg (by omega)]
          by_cases l2 : q = p + n - 2
          · subst l2; omega
          · have hlt : q < p + n - 2 := by
              by_cases e1 : 1 ≤ p
              · rw [if_pos e1] at hq1; omega
              · rw [if_neg e1] at hq1; omega
            have := h.up q (p + n - 2) hlt (by omega); omega
end
end Go.Proofs.Qxb6601491a
