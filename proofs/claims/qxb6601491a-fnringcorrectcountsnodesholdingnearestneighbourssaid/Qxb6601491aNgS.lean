/-
  THE PLAIN LAW: what newGraph leaves is what zzSetMatches asks; the index holds one entry a distinct address.
-/
import Derived.Test.Qxb6601491aNgR
namespace Go.Proofs.Qxb6601491a
open Go.RowKit
open Go.Extern.Stop (cell)

theorem compactUpTo_law (d : Array Int) (hs : ∀ i j, i ≤ j → j < d.size → d[i]! ≤ d[j]!) : ∀ m, m ≤ d.size →
    (Lib.compactUpTo d m).Pairwise (· < ·) ∧ (∀ j, j < m → d[j]! ∈ Lib.compactUpTo d m) ∧ (∀ z ∈ Lib.compactUpTo d m, ∃ j, j < m ∧ z = d[j]!)
  | 0, _ => by simp [Lib.compactUpTo]
  | m + 1, hm => by
    obtain ⟨h1, h2, h3⟩ := compactUpTo_law d hs m (by omega)
    rw [Lib.compactUpTo_succ]
    by_cases hk : Lib.keeps d m = true
    · rw [if_pos hk]
      refine ⟨List.pairwise_append.2 ⟨h1, List.pairwise_singleton _ _, fun a ha b hb => ?_⟩, fun j hj => ?_, fun z hz => ?_⟩
      · rw [List.mem_singleton] at hb
        subst hb
        obtain ⟨j, hj, rfl⟩ := h3 a ha
        unfold Lib.keeps at hk
        have hk := of_decide_eq_true hk
        have l1 := hs j (m - 1) (by omega) (by omega)
        have l2 := hs (m - 1) m (by omega) (by omega)
        rcases hk with h | h
        · omega
        · omega
      · by_cases e : j = m
        · subst e; exact List.mem_append.2 (.inr (List.mem_singleton.2 rfl))
        · exact List.mem_append.2 (.inl (h2 j (by omega)))
      · rcases List.mem_append.1 hz with hz | hz
        · obtain ⟨j, hj, rfl⟩ := h3 z hz; exact ⟨j, by omega, rfl⟩
        · exact ⟨m, by omega, List.mem_singleton.1 hz⟩
    · rw [if_neg hk, List.append_nil]
      refine ⟨h1, fun j hj => ?_, fun z hz => ?_⟩
      · by_cases e : j = m
        · subst e
          unfold Lib.keeps at hk
          have hk := fun h => hk (decide_eq_true h)
          have h0 : j ≠ 0 := fun h => hk (.inl h)
          have he : d[j]! = d[j - 1]! := Classical.byContradiction fun h => hk (.inr h)
          rw [he]; exact h2 (j - 1) (by omega)
        · exact h2 j (by omega)
      · obtain ⟨j, hj, rfl⟩ := h3 z hz; exact ⟨j, by omega, rfl⟩

theorem srt_up (zs : List Int) : (srt zs).Pairwise (· ≤ ·) := by
  have h := List.pairwise_mergeSort (le := fun x y : Int => decide (x ≤ y)) (fun a b c h1 h2 => by simp at *; omega) (fun a b => by simp; omega) zs
  exact List.pairwise_iff_getElem.2 fun i j hi hj hij => of_decide_eq_true (List.pairwise_iff_getElem.1 h i j hi hj hij)

theorem compact_law (zs : List Int) : (Lib.compact (srt zs)).Pairwise (· < ·) ∧ ∀ z, z ∈ Lib.compact (srt zs) ↔ z ∈ zs := by
  have hs : ∀ i j, i ≤ j → j < (srt zs).toArray.size → (srt zs).toArray[i]! ≤ (srt zs).toArray[j]! := fun i j hij hj => by
    have hj' : j < (srt zs).length := by simpa using hj
    rw [getElem!_pos _ i (by simp; omega), getElem!_pos _ j hj]
    simp only [List.getElem_toArray]
    by_cases e : i = j
    · subst e; exact Int.le_refl _
    · exact List.pairwise_iff_getElem.1 (srt_up zs) i j (by omega) hj' (by omega)
  obtain ⟨h1, h2, h3⟩ := compactUpTo_law (srt zs).toArray hs (srt zs).length (by simp)
  refine ⟨h1, fun z => ⟨fun h => srt_mem.1 (compact_sub h), fun h => ?_⟩⟩
  obtain ⟨j, hj, e⟩ := List.mem_iff_getElem.1 (srt_mem.2 h)
  have := h2 j hj
  rw [getElem!_pos _ j (by simpa using hj)] at this
  simp only [List.getElem_toArray, e] at this
  exact this

theorem found_mem (D : Nat → NodeD) (n : Nat) (E : Nat → EdgeD) (z : Int) : ∀ k, (z ∈ found D n E k ↔ ∃ e, e < k ∧ lookL (idxL D n) (E e).addr = some z) ∧ (z ∈ foundF D n E k ↔ ∃ e, e < k ∧ lookL (idxL D n) (E e).addr = some z ∧ (E e).label ≠ 2)
  | 0 => by simp [found, foundF]
  | k + 1 => by
    obtain ⟨h1, h2⟩ := found_mem D n E z k
    unfold found foundF
    rw [List.mem_append, List.mem_append, h1, h2]
    constructor
    · constructor
      · rintro (⟨e, he, h⟩ | h)
        · exact ⟨e, by omega, h⟩
        · refine ⟨k, by omega, ?_⟩
          cases hl : lookL (idxL D n) (E k).addr with
          | none => rw [hl] at h; cases h
          | some j => rw [hl] at h; rw [List.mem_singleton] at h; rw [h]
      · rintro ⟨e, he, h⟩
        by_cases hk : e = k
        · subst hk; right; rw [h]; exact List.mem_singleton.2 rfl
        · exact .inl ⟨e, by omega, h⟩
    · constructor
      · rintro (⟨e, he, h⟩ | h)
        · exact ⟨e, by omega, h⟩
        · refine ⟨k, by omega, ?_⟩
          cases hl : lookL (idxL D n) (E k).addr with
          | none => rw [hl] at h; cases h
          | some j =>
            rw [hl] at h
            simp only at h
            split at h
            · cases h
            · rename_i hne; rw [List.mem_singleton] at h; rw [h]; exact ⟨rfl, hne⟩
      · rintro ⟨e, he, h, hne⟩
        by_cases hk : e = k
        · subst hk; right; rw [h]; simp only; rw [if_neg hne]; exact List.mem_singleton.2 rfl
        · exact .inl ⟨e, by omega, h, hne⟩

theorem lastIn_addr (D : Nat → NodeD) (x : List UInt8) : ∀ n, 0 ≤ lastIn D x n → (D (lastIn D x n).toNat).addr = x
  | 0, h => by simp [lastIn] at h
  | n + 1, h => by
    have e : lastIn D x (n + 1) = if (D n).addr == x then (n : Int) else lastIn D x n := rfl
    rw [e] at h ⊢
    by_cases hq : (D n).addr = x
    · simp [hq]
    · have : ((D n).addr == x) = false := by simpa using hq
      rw [this] at h ⊢
      exact lastIn_addr D x n h

theorem lastIn_has (D : Nat → NodeD) (x : List UInt8) : ∀ n j, j < n → (D j).addr = x → (j : Int) ≤ lastIn D x n
  | 0, j, h, _ => absurd h (Nat.not_lt_zero _)
  | n + 1, j, h, hx => by
    have e : lastIn D x (n + 1) = if (D n).addr == x then (n : Int) else lastIn D x n := rfl
    rw [e]
    by_cases hq : (D n).addr = x
    · simp [hq]; omega
    · have : ((D n).addr == x) = false := by simpa using hq
      rw [this]
      have hj : j ≠ n := fun e => hq (e ▸ hx)
      exact lastIn_has D x n j (by omega) hx

/-- WHAT newGraph LEAVES PASSES zzSetMatches. -/
theorem fin_ok (D : Nat → NodeD) (n i : Nat) (r : Bool) (zs : List Int) (hz : zs.Pairwise (· < ·))
    (hm : ∀ z, z ∈ zs ↔ ∃ e, e < (D i).ne ∧ lookL (idxL D n) ((D i).edges e).addr = some z ∧ (r = true → ((D i).edges e).label ≠ 2)) : SetOK D n i r zs := by
  have key : ∀ z, z ∈ zs → ∃ e, e < (D i).ne ∧ z = lastIn D ((D i).edges e).addr n ∧ 0 ≤ z ∧ (r = true → ((D i).edges e).label ≠ 2) := fun z h => by
    obtain ⟨e, h1, h2, h3⟩ := (hm z).1 h
    rw [look_last] at h2
    split at h2
    · rename_i h0; cases h2; exact ⟨e, h1, rfl, h0, h3⟩
    · cases h2
  refine ⟨fun k hk => ?_, fun k hk => List.pairwise_iff_getElem.1 hz k (k + 1) (by omega) hk (by omega), fun k hk => ?_, fun k hk => ?_, fun k hk hr h0 => ?_⟩
  · obtain ⟨e, -, h2, h3, -⟩ := key _ (List.getElem_mem hk)
    refine ⟨h3, ?_⟩
    rw [h2]; exact (lastIn_lt D _ n).1
  · obtain ⟨e, -, h2, h3, -⟩ := key _ (List.getElem_mem hk)
    have : (D zs[k].toNat).addr = ((D i).edges e).addr := by rw [h2] at h3 ⊢; exact lastIn_addr D _ n h3
    rw [this, ← h2]
  · obtain ⟨e, h1, h2, h3, h4⟩ := key _ (List.getElem_mem hk)
    have : (D zs[k].toNat).addr = ((D i).edges e).addr := by rw [h2] at h3 ⊢; exact lastIn_addr D _ n h3
    rw [this]
    unfold hasTo
    rw [List.any_eq_true]
    refine ⟨e, List.mem_range.2 h1, ?_⟩
    unfold hits
    cases r
    · simp
    · simpa using h4 rfl
  · unfold inB
    rw [List.contains_iff_mem]
    exact (hm _).2 ⟨k, hk, by rw [look_last, if_pos h0], hr⟩

theorem finL_ok (D : Nat → NodeD) (n i : Nat) : SetOK D n i false (finL D n i) :=
  fin_ok D n i false _ (compact_law _).1 fun z => by
    unfold finL
    rw [(compact_law _).2, (found_mem D n _ z _).1]
    simp

theorem finF_ok (D : Nat → NodeD) (n i : Nat) : SetOK D n i true (finF D n i) :=
  fin_ok D n i true _ (compact_law _).1 fun z => by
    unfold finF
    rw [(compact_law _).2, (found_mem D n _ z _).2]
    simp

/-- How many of the first k. -/
def cn (p : Nat → Bool) : Nat → Nat
  | 0 => 0
  | k + 1 => cn p k + if p k then 1 else 0

theorem cn_le (p : Nat → Bool) : ∀ k, cn p k ≤ k
  | 0 => Nat.le_refl _
  | k + 1 => by have := cn_le p k; unfold cn; split <;> omega

theorem cn_same {p q : Nat → Bool} : ∀ k, (∀ j, j < k → p j = q j) → cn p k = cn q k
  | 0, _ => rfl
  | k + 1, h => by unfold cn; rw [cn_same k fun j hj => h j (by omega), h k (by omega)]

theorem cn_split (p q : Nat → Bool) : ∀ k, cn p k = cn (fun j => p j && !q j) k + cn (fun j => p j && q j) k
  | 0 => rfl
  | k + 1 => by
    unfold cn
    rw [cn_split p q k]
    cases p k <;> cases q k <;> simp <;> omega

theorem cn_zero {p : Nat → Bool} : ∀ k, (∀ j, j < k → p j = false) → cn p k = 0
  | 0, _ => rfl
  | k + 1, h => by unfold cn; rw [cn_zero k fun j hj => h j (by omega), h k (by omega)]; rfl

theorem cn_one {p : Nat → Bool} {j0 : Nat} : ∀ k, j0 < k → (∀ j, j < k → (p j = true ↔ j = j0)) → cn p k = 1
  | 0, h, _ => absurd h (Nat.not_lt_zero _)
  | k + 1, h0, h => by
    unfold cn
    by_cases e : j0 = k
    · subst e
      rw [cn_zero j0 fun j hj => Bool.eq_false_iff.2 fun hh => absurd ((h j (by omega)).1 hh) (by omega), (h j0 (by omega)).2 rfl]
      rfl
    · rw [cn_one k (by omega) fun j hj => h j (by omega)]
      have : p k = false := Bool.eq_false_iff.2 fun hh => e ((h k (by omega)).1 hh).symm
      rw [this]; rfl

theorem lookL_cons (x k : List UInt8) (u : Int) (l : List (List UInt8 × Int)) : lookL ((k, u) :: l) x = if x == k then some u else lookL l x := by
  unfold lookL
  simp only [List.find?_cons]
  cases x == k <;> simp

theorem putL_length (x : List UInt8) (v : Int) : ∀ l, (putL x v l).length = l.length + if (lookL l x).isNone then 1 else 0
  | [] => by simp [putL, lookL]
  | (k, u) :: l => by
    have ih := putL_length x v l
    unfold putL
    rw [lookL_cons]
    cases x == k
    · simp only [Bool.false_eq_true, if_false, List.length_cons]
      rw [ih]; omega
    · simp

/-- The index holds as many entries as there are nodes that are the last of their address. -/
theorem idx_len (D : Nat → NodeD) : ∀ n, (idxL D n).length = cn (fun j => lastIn D (D j).addr n == (j : Int)) n
  | 0 => rfl
  | n + 1 => by
    have e : ∀ x, lastIn D x (n + 1) = if (D n).addr == x then (n : Int) else lastIn D x n := fun _ => rfl
    rw [idxL, putL_length, idx_len D n]
    rw [show cn (fun j => lastIn D (D j).addr (n + 1) == (j : Int)) (n + 1) = cn (fun j => lastIn D (D j).addr (n + 1) == (j : Int)) n + if lastIn D (D n).addr (n + 1) == (n : Int) then 1 else 0 from rfl]
    rw [e (D n).addr]
    simp only [beq_self_eq_true, if_true]
    have hs := cn_split (fun j => lastIn D (D j).addr n == (j : Int)) (fun j => (D n).addr == (D j).addr) n
    have h1 : cn (fun j => lastIn D (D j).addr (n + 1) == (j : Int)) n = cn (fun j => (lastIn D (D j).addr n == (j : Int)) && !((D n).addr == (D j).addr)) n := by
      refine cn_same n fun j hj => ?_
      rw [e]
      cases h : (D n).addr == (D j).addr
      · simp
      · have : ((n : Int) == (j : Int)) = false := by rw [beq_eq_false_iff_ne]; omega
        simp [this]
    rw [h1, hs, look_last]
    by_cases h0 : 0 ≤ lastIn D (D n).addr n
    · rw [if_pos h0]
      have ha := lastIn_addr D _ n h0
      have hlt := (lastIn_lt D (D n).addr n).1
      rw [cn_one (p := fun j => (lastIn D (D j).addr n == (j : Int)) && ((D n).addr == (D j).addr)) (j0 := (lastIn D (D n).addr n).toNat) n (by omega) fun j hj => ?_]
      · simp
      · constructor
        · intro h
          rw [Bool.and_eq_true, beq_iff_eq, beq_iff_eq] at h
          rw [h.2, h.1]; omega
        · rintro rfl
          rw [ha]
          simp [Int.toNat_of_nonneg h0]
    · rw [if_neg h0]
      rw [cn_zero (p := fun j => (lastIn D (D j).addr n == (j : Int)) && ((D n).addr == (D j).addr)) n fun j hj => ?_]
      · simp
      · rw [Bool.and_eq_false_iff]
        right
        rw [beq_eq_false_iff_ne]
        intro h
        have := lastIn_has D (D n).addr n j hj h.symm
        omega
end Go.Proofs.Qxb6601491a
