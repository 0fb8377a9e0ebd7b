/-
  THE PLAIN LAW: the children that a script of adds leaves. No Go in sight.
-/
import Derived.Test.Qxb6601888aAdd2
namespace Go.Proofs.Qxb6601888a

theorem fst_spec (G : Nat → ByteArray) (i : Nat) : fstI G i ≤ i ∧ (∀ k, k < fstI G i → eqs (G k) (G i) = false) ∧ (fstI G i < i → eqs (G (fstI G i)) (G i) = true) := by
  unfold fstI
  have h1 : (List.range i).findIdx (fun j => eqs (G j) (G i)) ≤ i := by
    have := List.findIdx_le_length (xs := List.range i) (p := fun j => eqs (G j) (G i))
    simpa using this
  refine ⟨h1, fun k hk => ?_, fun h => ?_⟩
  · have := List.not_of_lt_findIdx hk
    simpa using this
  · have := List.findIdx_getElem (xs := List.range i) (p := fun j => eqs (G j) (G i)) (w := by simpa using h)
    simpa using this

theorem fst_eq (G : Nat → ByteArray) (i : Nat) : G (fstI G i) = G i := by
  obtain ⟨h1, -, h3⟩ := fst_spec G i
  by_cases h : fstI G i < i
  · exact eqs_iff.1 (h3 h)
  · rw [show fstI G i = i by omega]

theorem fst_fst (G : Nat → ByteArray) (i : Nat) : fstI G (fstI G i) = fstI G i := by
  obtain ⟨h1, h2, -⟩ := fst_spec G i
  obtain ⟨g1, -, g3⟩ := fst_spec G (fstI G i)
  by_cases h : fstI G (fstI G i) < fstI G i
  · have a := h2 _ h
    have b := g3 h
    rw [fst_eq G i] at b
    rw [a] at b; cases b
  · omega

/-- The children behind i adds: one for each text at its first place. -/
def kids (G : Nat → ByteArray) (A : Nat → Addr) : Nat → Kids
  | 0 => []
  | i + 1 => kids G A i ++ (if fstI G i = i then [(G i, A i)] else [])

theorem kids_old {G : Nat → ByteArray} {A : Nat → Addr} {i : Nat} (h : ¬ fstI G i = i) : kids G A (i + 1) = kids G A i := by simp [kids, h]
theorem kids_new {G : Nat → ByteArray} {A : Nat → Addr} {i : Nat} (h : fstI G i = i) : kids G A (i + 1) = kids G A i ++ [(G i, A i)] := by simp [kids, h]

theorem kids_congr {G : Nat → ByteArray} {A A' : Nat → Addr} : ∀ {i : Nat}, (∀ j, j < i → A j = A' j) → kids G A i = kids G A' i := by
  intro i
  induction i with
  | zero => intro _; rfl
  | succ i ih => intro h; simp only [kids]; rw [ih fun j hj => h j (by omega), h i (by omega)]

theorem find_none {G : Nat → ByteArray} {A : Nat → Addr} {t : ByteArray} : ∀ {i : Nat}, (∀ k, k < i → eqs (G k) t = false) → findAddr (kids G A i) t = none := by
  intro i
  induction i with
  | zero => intro _; rfl
  | succ i ih =>
    intro h
    simp only [kids]
    rw [findAddr_append, ih fun k hk => h k (by omega)]
    split
    · simp [findAddr, h i (by omega)]
    · rfl

theorem find_some {G : Nat → ByteArray} {A : Nat → Addr} {t : ByteArray} {j : Nat} (hj : eqs (G j) t = true) (hno : ∀ k, k < j → eqs (G k) t = false) : ∀ {i : Nat}, j < i → findAddr (kids G A i) t = some (A j) := by
  intro i
  induction i with
  | zero => intro h; omega
  | succ i ih =>
    intro h
    simp only [kids]
    rw [findAddr_append]
    by_cases hi : j < i
    · rw [ih hi]; rfl
    · obtain rfl : j = i := by omega
      rw [find_none hno]
      have e : G j = t := eqs_iff.1 hj
      have hf : fstI G j = j := by
        obtain ⟨h1, -, h3⟩ := fst_spec G j
        by_cases hlt : fstI G j < j
        · have := h3 hlt
          rw [e, hno _ hlt] at this; cases this
        · omega
      simp [hf, findAddr, hj]

/-- A text that is not held yet. -/
theorem find_fresh {G : Nat → ByteArray} {A : Nat → Addr} {i : Nat} (h : fstI G i = i) : findAddr (kids G A i) (G i) = none := by
  obtain ⟨-, h2, -⟩ := fst_spec G i
  exact find_none fun k hk => h2 k (by omega)

/-- The child for a text. -/
theorem find_text {G : Nat → ByteArray} {A : Nat → Addr} {i n : Nat} (h : i < n) : findAddr (kids G A n) (G i) = some (A (fstI G i)) := by
  obtain ⟨h1, h2, -⟩ := fst_spec G i
  exact find_some (by rw [fst_eq G i]; exact eqs_iff.2 rfl) h2 (by omega)

theorem kids_apart (G : Nat → ByteArray) (A : Nat → Addr) : ∀ i, Apart (kids G A i) := by
  intro i
  induction i with
  | zero => intro i j hi; simp [kids] at hi
  | succ i ih =>
    by_cases h : fstI G i = i
    · rw [kids_new h]; exact apart_append ih (find_fresh h)
    · rw [kids_old h]; exact ih

/-- A probe: its first place among the texts, or none. -/
theorem find_probe {G : Nat → ByteArray} {A : Nat → Addr} {n : Nat} {t : ByteArray} :
    (idxOf G n t = -1 ∧ findAddr (kids G A n) t = none) ∨ ∃ k, k < n ∧ idxOf G n t = (k : Nat) ∧ fstI G k = k ∧ findAddr (kids G A n) t = some (A k) := by
  unfold idxOf
  by_cases h : (List.range n).findIdx (fun j => eqs (G j) t) < n
  · refine Or.inr ⟨_, h, by rw [if_pos h], ?_⟩
    have hy : eqs (G ((List.range n).findIdx (fun j => eqs (G j) t))) t = true := by
      have := List.findIdx_getElem (xs := List.range n) (p := fun j => eqs (G j) t) (w := by simpa using h)
      simpa using this
    have hno : ∀ k, k < (List.range n).findIdx (fun j => eqs (G j) t) → eqs (G k) t = false := fun k hk => by
      have := List.not_of_lt_findIdx hk
      simpa using this
    generalize (List.range n).findIdx (fun j => eqs (G j) t) = k at h hy hno
    refine ⟨?_, find_some hy hno h⟩
    have e : G k = t := eqs_iff.1 hy
    obtain ⟨h1, -, h3⟩ := fst_spec G k
    by_cases hlt : fstI G k < k
    · have := h3 hlt
      rw [e, hno _ hlt] at this; cases this
    · omega
  · refine Or.inl ⟨by rw [if_neg h], find_none fun k hk => ?_⟩
    have e : (List.range n).findIdx (fun j => eqs (G j) t) = n := by
      have := List.findIdx_le_length (xs := List.range n) (p := fun j => eqs (G j) t)
      simp at this; omega
    have := List.not_of_lt_findIdx (xs := List.range n) (p := fun j => eqs (G j) t) (i := k) (by omega)
    simpa using this
end Go.Proofs.Qxb6601888a
