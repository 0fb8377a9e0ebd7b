/-
  listsNode, walked.
-/
import Derived.Test.Qxb6601491aRgH
import Derived.Test.Qxb6601491aShelf
namespace Go.Proofs.Qxb6601491a
open Go.RowKit
open Go.Extern.Stop (cell)

/-- slices.BinarySearch at such a list. -/
theorem search_any (v : Value) (zs : List Int) (x : Int) (w : World) (h : Lst0 w v zs) (hs : zs.Pairwise (· ≤ ·)) (hl : zs.length ≤ 131072) :
    Calls Try.prog 58 #[v, .int .i64 x] w fun e w' => (∃ k : Int, e = .returned (.tuple #[.int .i64 k, .bool (inB zs x)])) ∧ ∃ q, w' = w.drewN q := by
  obtain ⟨a, c, rfl, -, h4⟩ := h
  by_cases hz : zs = []
  · subst hz
    refine (Try.slices_BinarySearch_int_empty a c x w).mono ?_
    rintro e w' ⟨rfl, rfl⟩
    exact ⟨⟨0, rfl⟩, 0, rfl⟩
  · rcases h4 with h4 | ⟨blk, rfl, h4⟩
    · exact absurd h4 hz
    · refine (Try.slices_BinarySearch_int blk 0 zs.length c zs x w (Nat.le_refl _) (by omega) (fun j hj => ?_) (by rwa [List.take_length])).mono ?_
      · rw [Nat.zero_add, h4 j hj]; simp [List.getD, hj]
      · rintro e w' ⟨rfl, q, rfl⟩
        rw [List.take_length]
        exact ⟨⟨_, rfl⟩, q, rfl⟩

/-- A row of lists of the call's own. -/
def Lsts0 (w : World) (b : Option Addr) (m : Nat) (L : Nat → List Int) (vs : Nat → Value) : Prop :=
  m = 0 ∨ ∃ blk, b = some ⟨blk, 0, none⟩ ∧ ∀ i, i < m → w.cell? ⟨blk, i, none⟩ = some (vs i) ∧ Lst0 w (vs i) (L i)

theorem Lsts0.at {w : World} {b : Option Addr} {m : Nat} {L : Nat → List Int} {vs : Nat → Value} (h : Lsts0 w b m L vs) (h0 : 0 < m) : ∃ blk, b = some ⟨blk, 0, none⟩ ∧ ∀ i, i < m → w.cell? ⟨blk, i, none⟩ = some (vs i) ∧ Lst0 w (vs i) (L i) := by
  rcases h with h | h
  · omega
  · exact h

theorem Lsts0.below {w w' : World} {b : Option Addr} {m : Nat} {L : Nat → List Int} {vs : Nat → Value} (h : Lsts0 w b m L vs) (hb : Below w.heap.size w w') : Lsts0 w' b m L vs := by
  rcases h with h | ⟨blk, hb', h⟩
  · exact .inl h
  · exact .inr ⟨blk, hb', fun i hi => ⟨cell_below (h i hi).1 hb, (h i hi).2.below hb⟩⟩

/-- The graph's cells. -/
def gcs (a : Option Addr) (n : Nat) (b : Option Addr) (m : Nat) : List Value := [.slice a n n, .map none, .slice b m m, .slice none 0 0, .slice none 0 0]

set_option maxHeartbeats 1000000 in
/-- 'listsNode'. -/
theorem listsN_zz (a : Option Addr) (n : Nat) (b : Option Addr) (m : Nat) (L : Nat → List Int) (vs : Nat → Value) (i : Nat) (j : Int) (w : World) (hm : m ≤ 4096) (hi : i < m) (hL : Lsts0 w b m L vs) (hs : (L i).Pairwise (· ≤ ·)) (hl : (L i).length ≤ 131072) :
    Calls Try.prog 51 #[aggV (gcs a n b m), .int .i64 i, .int .i64 j] w fun e w' => e = .returned (.bool (inB (L i) j)) ∧ Below w.heap.size w w' := by
  have hb0 : Below w.heap.size w (w.alloc (.cells (gcs a n b m).toArray 70)) := (Below.refl _ _).alloc (Nat.le_refl _) _
  have c2 : (w.alloc (.cells (gcs a n b m).toArray 70)).cell? ⟨w.heap.size, 2, none⟩ = some (.slice b m m) := rangeAt_alloc_new w (gcs a n b m) 70 2 (.slice b m m) rfl
  obtain ⟨blk, hb, hc⟩ := (hL.below hb0).at (by omega)
  have d1 := (hc i hi).1
  have cS := search_any (vs i) (L i) j (w.alloc (.cells (gcs a n b m).toArray 70)) (hc i hi).2 hs hl
  have HB : Hid (Below w.heap.size w (w.alloc (.cells (gcs a n b m).toArray 70))) := hb0
  rw [hb] at c2 cS d1 HB ⊢
  clear hc hL hs hl hb0
  generalize inB (L i) j = r at cS ⊢
  unfold aggV
  go_enter Try.func51, Try.ntmps51
  go_wp2_with fail
  refine cS.mono ?_
  rintro e w2 ⟨⟨k, rfl⟩, q, rfl⟩
  go_wp2_with fail
  go_ret
  exact ⟨rfl, HB.out.trans ⟨rfl, rfl, rfl, Nat.le_refl _, fun _ _ => rfl⟩⟩
end Go.Proofs.Qxb6601491a
