/-
  ONE MORE ADDRESS TO A ROW, AS FACTS FOR THE WALK; WHERE THE INDICES FOUND LIE.
-/
import Derived.Test.Qxb6601491aNgQ
namespace Go.Proofs.Qxb6601491a
open Go.RowKit
open Go.Extern.Stop (cell)

theorem build25' (x0 x1 x2 x3 x4 x5 x6 x7 x8 x9 x10 x11 x12 x13 x14 x15 x16 x17 x18 x19 : UInt8) (w : World) :
    (vbs 25 1 #[(0, addrV [x0, x1, x2, x3, x4, x5, x6, x7, x8, x9, x10, x11, x12, x13, x14, x15, x16, x17, x18, x19])]).run Try.prog w = .ok (.slice (some ⟨w.heap.size, 0, none⟩) 1 1) (w.alloc (.cells ([x0, x1, x2, x3, x4, x5, x6, x7, x8, x9, x10, x11, x12, x13, x14, x15, x16, x17, x18, x19].map cell).toArray 34)) := by
  kernel_rfl

theorem build25 (y : List UInt8) (hy : y.length = 20) (w : World) : (vbs 25 1 #[(0, addrV y)]).run Try.prog w = .ok (.slice (some ⟨w.heap.size, 0, none⟩) 1 1) (w.alloc (.cells (y.map cell).toArray 34)) := by
  match y, hy with
  | [x0, x1, x2, x3, x4, x5, x6, x7, x8, x9, x10, x11, x12, x13, x14, x15, x16, x17, x18, x19], _ => exact build25' x0 x1 x2 x3 x4 x5 x6 x7 x8 x9 x10 x11 x12 x13 x14 x15 x16 x17 x18 x19 w

/-- One more address. -/
theorem app25 {T : Nat} {v : Value} {xs : List (List UInt8)} {w : World} (h : ARow T v xs w) (hT : T ≤ w.heap.size) (hz : xs.length ≤ 1048576) (y : List UInt8) (hy : y.length = 20) :
    ∃ v' w2, (∀ ty, (vap #[25, 25] ty #[v, .slice (some ⟨w.heap.size, 0, none⟩) 1 1]).run Try.prog (w.alloc (.cells (y.map cell).toArray 34)).drew = .ok v' w2) ∧ (w.alloc (.cells (y.map cell).toArray 34)).grownBy w2 v.ownBlock ∧
      w2.ownsRow T 34 20 v' (xs.length + 1) (adrs xs ++ y.map cell) ∧ ∃ g cap, v' = .slice (some ⟨g, 0, none⟩) (xs.length + 1) cap := by
  obtain ⟨i0, hi, hz0, hz1, hz2⟩ := info_parts Try.info34
  have hown : (w.drew.alloc (.cells (y.map cell).toArray 34)).ownsRow T 34 20 v xs.length (adrs xs) := World.ownsRow.alloc (w := w.drew) h.own _
  have hnew : ∀ j u, (y.map cell)[j]? = some u → (w.drew.alloc (.cells (y.map cell).toArray 34)).cell? ((⟨w.heap.size, 0, none⟩ : Addr).add j) = some u := fun j u hu => by
    rw [Addr.add_mid]
    exact rangeAt_alloc_new w.drew (y.map cell) 34 j u hu
  have key := fun ty => run_append_own_at (P := Try.prog) (w.drew.alloc (.cells (y.map cell).toArray 34)) T 25 ty 34 i0 (.agg (Array.replicate 20 (.int .u8 0))) 20 20 Try.underlying25 hi hz0 hz1 hz2 (by simp [Value.cells]) (by decide) v xs.length (adrs xs) hown ⟨w.heap.size, 0, none⟩ 1 1 (y.map cell) (by simp [hy])
    hnew (addr_one y) (by unfold maxLen; omega) (by omega) (by simp; omega)
  obtain ⟨v', w2, h1, h2, h3, -, -⟩ := key 0
  refine ⟨v', w2, fun ty => h1, ⟨h3.os, h3.tape, h3.output, h3.size, h3.block⟩, h2, ?_⟩
  rcases h2.2 with ⟨-, h0⟩ | ⟨g, cap, cur, hv, -⟩
  · omega
  · exact ⟨g, cap, hv⟩

theorem lookL_put (x y : List UInt8) (v : Int) : ∀ l, lookL (putL x v l) y = if y == x then some v else lookL l y
  | [] => by
    unfold putL lookL
    simp only [List.find?_cons, List.find?_nil]
    cases y == x <;> simp
  | (k, u) :: l => by
    have ih := lookL_put x y v l
    unfold putL
    by_cases hq : x = k
    · subst hq
      simp only [beq_self_eq_true, if_true]
      unfold lookL
      simp only [List.find?_cons]
      cases y == x <;> simp
    · have hq' : (x == k) = false := by simpa using hq
      rw [hq']
      simp only [Bool.false_eq_true, if_false]
      unfold lookL at ih ⊢
      simp only [List.find?_cons]
      by_cases hy : y = k
      · subst hy
        have : (y == x) = false := by simpa using Ne.symm hq
        simp [this]
      · have hy' : (y == k) = false := by simpa using hy
        rw [hy']
        simpa using ih

/-- The index leads to the last node of the address. -/
theorem look_last (D : Nat → NodeD) (x : List UInt8) : ∀ n, lookL (idxL D n) x = if 0 ≤ lastIn D x n then some (lastIn D x n) else none
  | 0 => by simp [idxL, lookL, lastIn]
  | n + 1 => by
    have e : lastIn D x (n + 1) = if (D n).addr == x then (n : Int) else lastIn D x n := rfl
    rw [idxL, lookL_put, look_last D x n, e]
    by_cases h : x = (D n).addr
    · subst h; simp
    · have h1 : (x == (D n).addr) = false := by simpa using h
      have h2 : ((D n).addr == x) = false := by simpa using Ne.symm h
      rw [h1, h2]; simp

theorem found_range (D : Nat → NodeD) (n : Nat) (E : Nat → EdgeD) : ∀ k, (∀ z ∈ found D n E k, 0 ≤ z ∧ z < n) ∧ (∀ z ∈ foundF D n E k, 0 ≤ z ∧ z < n)
  | 0 => ⟨(fun z hz => by cases hz), (fun z hz => by cases hz)⟩
  | k + 1 => by
    obtain ⟨h1, h2⟩ := found_range D n E k
    have hr : ∀ j, lookL (idxL D n) (E k).addr = some j → 0 ≤ j ∧ j < n := fun j hj => by
      rw [look_last] at hj
      split at hj
      · rename_i h0; cases hj; exact ⟨h0, (lastIn_lt D _ n).1⟩
      · cases hj
    unfold found foundF
    constructor
    · intro z hz
      rcases List.mem_append.1 hz with hz | hz
      · exact h1 z hz
      · cases hl : lookL (idxL D n) (E k).addr with
        | none => rw [hl] at hz; cases hz
        | some j => rw [hl] at hz; simp at hz; subst hz; exact hr z hl
    · intro z hz
      rcases List.mem_append.1 hz with hz | hz
      · exact h2 z hz
      · cases hl : lookL (idxL D n) (E k).addr with
        | none => rw [hl] at hz; cases hz
        | some j =>
          rw [hl] at hz
          simp only at hz
          split at hz
          · cases hz
          · simp at hz; subst hz; exact hr z hl

theorem srt_mem {zs : List Int} {z : Int} : z ∈ srt zs ↔ z ∈ zs := List.mem_mergeSort

theorem compact_sub {zs : List Int} {z : Int} (h : z ∈ Lib.compact zs) : z ∈ zs := by
  unfold Lib.compact Lib.compactUpTo at h
  simp only [List.mem_map, List.mem_filter, List.mem_range] at h
  obtain ⟨j, ⟨hj, -⟩, rfl⟩ := h
  simp [hj]

theorem finF_range (D : Nat → NodeD) (n r : Nat) : ∀ z ∈ finF D n r, 0 ≤ z ∧ z < n := fun z hz => (found_range D n _ _).2 z (srt_mem.1 (compact_sub hz))
end Go.Proofs.Qxb6601491a
