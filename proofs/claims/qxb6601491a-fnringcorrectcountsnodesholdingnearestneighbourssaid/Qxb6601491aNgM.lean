/-
  slices.Sort, slices.Compact OF A ROW OF INTEGERS THAT A SLICE OWNS.
-/
import Derived.Test.Qxb6601491aNgK
import Derived.Test.Qxb6601491aShelf
import Derived.Sort.OwnSorted
namespace Go.Proofs.Qxb6601491a
open Go.RowKit Go.Sort
open Go.Extern.Stop (cell)

def ints (zs : List Int) : List Value := zs.map (Value.int .i64)
def srt (zs : List Int) : List Int := zs.mergeSort fun x y => decide (x ≤ y)

theorem srt_length (zs : List Int) : (srt zs).length = zs.length := List.length_mergeSort _

theorem heap_put {w : World} {g n : Nat} {os : Array Obj} {cur : Array Value} {e : TypeId} {fr : Nat × Nat} (d : Array Int) (hb : w.heap[g]? = some (.cells cur e fr)) :
    (grow (putRow (Value.int .i64) (Sort.ahead w n) g 0 d) os).heap[g]? = some (.cells (putCells (Value.int .i64) 0 d cur) e fr) := by
  have hg : g < w.heap.size := (Array.getElem?_eq_some_iff.1 hb).1
  rw [heap_grow_old _ _ (by simpa using hg)]
  simp [putRow, mapBlock, Sort.ahead, Array.getElem?_modify, hb, onCells]

theorem grownBy_put {w : World} {g n : Nat} {os : Array Obj} (d : Array Int) : w.grownBy (grow (putRow (Value.int .i64) (Sort.ahead w n) g 0 d) os) (some g) := by
  refine ⟨rfl, rfl, rfl, by simp, fun k hk hne => ?_⟩
  rw [heap_grow_old _ _ (by simpa using hk)]
  have : g ≠ k := fun e => hne (by rw [e])
  simp [putRow, mapBlock, Sort.ahead, Array.getElem?_modify, this]

theorem take_put (cur : Array Value) (ts us : List Int) (h : (ts ++ us).length ≤ cur.size) : (putCells (Value.int .i64) 0 (ts ++ us).toArray cur).toList.take ts.length = ints ts := by
  apply List.ext_getElem?
  intro j
  simp only [List.length_append] at h
  by_cases hj : j < ts.length
  · rw [List.getElem?_take_of_lt hj, Array.getElem?_toList]
    simp [putCells, ints, hj, show j < cur.size by omega, show j < ts.length + us.length by omega, List.getElem_append_left]
  · rw [List.getElem?_take_eq_none (by omega), List.getElem?_eq_none (by simp [ints]; omega)]

theorem row_holds {w : World} {base g n cap : Nat} {zs : List Int} (hn : zs.length = n) (h : w.ownsRow base 3 1 (.slice (some ⟨g, 0, none⟩) n cap) n (ints zs)) : Holds (Value.int .i64) w g 0 zs.toArray := by
  intro j hj
  have hj' : j < zs.length := by simpa using hj
  refine ⟨?_, by rw [Nat.zero_add]; exact h.frozenAt j⟩
  rw [Nat.zero_add, h.cellAt j (by omega)]
  simp [ints, hj']

/-- Sort. -/
theorem sort_row {w : World} {base : Nat} {v : Value} {zs : List Int} (h : w.ownsRow base 3 1 v zs.length (ints zs)) (hz : zs.length ≤ 1048576) :
    Calls Try.prog 46 #[v] w fun e w' => e = .returned (.tuple #[]) ∧ w'.ownsRow base 3 1 v zs.length (ints (srt zs)) ∧ w.grownBy w' v.ownBlock := by
  rcases h.2 with ⟨rfl, h0⟩ | ⟨g, cap, cur, rfl, hbase, hg, hc1, hc2, hs, -⟩
  · obtain rfl := List.eq_nil_of_length_eq_zero h0
    refine (Try.slices_Sort_int_none none 0 w).mono ?_
    rintro e w' ⟨rfl, rfl⟩
    exact ⟨rfl, by simpa [srt, ints] using h, World.grownBy.refl _ _⟩
  · refine (Try.slices_Sort_int g 0 cap zs w (row_holds rfl h) (Array.getElem?_eq_some_iff.1 hg).1 (by omega)).mono ?_
    rintro e w' ⟨rfl, n, os, rfl⟩
    refine ⟨rfl, ?_, grownBy_put _⟩
    have hl := srt_length zs
    refine ⟨by simp [ints, hl], .inr ⟨g, cap, _, rfl, hbase, heap_put _ hg, hc1, hc2, by simp [putCells, hs], ?_⟩⟩
    have := take_put cur (srt zs) [] (by simp [hl]; omega)
    rw [List.append_nil, hl] at this
    rw [Nat.mul_one]; exact this

theorem compactUpTo_pos (d : Array Int) : ∀ m, 0 < m → Lib.compactUpTo d m ≠ []
  | 0, h => absurd h (Nat.lt_irrefl _)
  | 1, _ => by
    rw [Lib.compactUpTo_succ, if_pos (Lib.keeps_lt_one d 0 (by omega))]
    simp
  | m + 2, _ => by
    rw [Lib.compactUpTo_succ]
    intro h
    exact compactUpTo_pos d (m + 1) (by omega) (List.append_eq_nil_iff.1 h).1

theorem compact_nil {zs : List Int} (h : Lib.compact zs = []) : zs = [] := by
  cases zs with
  | nil => rfl
  | cons z zs => exact absurd h (compactUpTo_pos _ _ (by simp))

/-- Compact. -/
theorem compact_row {w : World} {base : Nat} {v : Value} {zs : List Int} (h : w.ownsRow base 3 1 v zs.length (ints zs)) (hz : zs.length ≤ 1048576) :
    Calls Try.prog 47 #[v] w fun e w' => ∃ a' cap', e = .returned (.slice a' (Lib.compact zs).length cap') ∧ w'.ownsRow base 3 1 (.slice a' (Lib.compact zs).length cap') (Lib.compact zs).length (ints (Lib.compact zs)) ∧ (Value.slice a' (Lib.compact zs).length cap').ownBlock = v.ownBlock ∧ (v = .slice none 0 0 → Value.slice a' (Lib.compact zs).length cap' = .slice none 0 0) ∧ w.grownBy w' v.ownBlock := by
  rcases h.2 with ⟨rfl, h0⟩ | ⟨g, cap, cur, rfl, hbase, hg, hc1, hc2, hs, -⟩
  · obtain rfl := List.eq_nil_of_length_eq_zero h0
    refine (Try.slices_Compact_int_empty none 0 w).mono ?_
    rintro e w' ⟨rfl, rfl⟩
    exact ⟨none, 0, rfl, by simpa [Lib.compact, Lib.compactUpTo, ints] using h, rfl, fun _ => rfl, World.grownBy.refl _ _⟩
  · refine (Try.slices_Compact_int g 0 cap zs w (row_holds rfl h) (by omega) hc1).mono ?_
    rintro e w' ⟨rfl, q, rfl⟩
    have hle := Lib.compact_length_le zs
    refine ⟨_, _, rfl, ?_, rfl, (fun e => by cases e), ?_⟩
    · have h1 := heap_put (n := q) (os := #[]) (Lib.compact zs ++ List.replicate (zs.length - (Lib.compact zs).length) 0).toArray hg
      rw [grow_empty] at h1
      refine ⟨by simp [ints], .inr ⟨g, cap, _, rfl, hbase, h1, by omega, hc2, by simp [putCells, hs], ?_⟩⟩
      rw [Nat.mul_one]
      exact take_put cur (Lib.compact zs) _ (by simp; omega)
    · have h1 := grownBy_put (w := w) (g := g) (n := q) (os := #[]) (Lib.compact zs ++ List.replicate (zs.length - (Lib.compact zs).length) 0).toArray
      rw [grow_empty] at h1
      exact h1
end Go.Proofs.Qxb6601491a
