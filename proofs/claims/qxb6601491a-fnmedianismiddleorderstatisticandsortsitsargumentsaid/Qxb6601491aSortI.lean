/-
  slices.Sort AT []float64: the assembly: a permutation of what the row held, ascending by 'Fl.ltF' (NaNs first).
-/
import Derived.Test.Qxb6601491aSortB
import Derived.Test.Qxb6601491aSortC
import Derived.Test.Qxb6601491aSortD
import Derived.Test.Qxb6601491aSortF
import Derived.Test.Qxb6601491aSortG
import Derived.Test.Qxb6601491aSortH
import Derived.Sort.AssemblyPlain
namespace Go.Proofs.Qxb6601491a
open Go.RowKit Go.Sort Fl

theorem swo_ltF : SWO ltF where
  irrefl x := by rw [ltF_key]; exact klt_irrefl _
  trans x y z h1 h2 := by rw [ltF_key] at *; exact klt_trans h1 h2
  ntrans x y z h1 h2 := by rw [ltF_key] at *; exact klt_ntrans h1 h2

theorem fltCallees : FltCallees where
  ins := flt_insertionSort
  brk := flt_breakPatterns
  piv := flt_choosePivot
  par := flt_partialInsertionSort
  peq := flt_partitionEqualOrdered
  prt := flt_partitionOrdered

theorem fltPlain : FltPlain where
  swo := swo_ltF
  ins := insertionSort_holds
  par := partialInsertionSort_holds
  prt := partition_holds _
  peq := partitionEqual_holds _
  pdq := pdq_sorts _

set_option maxRecDepth 100000 in
theorem flt_Sort (blk off cap : Nat) (d : Array Nat) (w : World) (hH : Holds encF w blk off d) (hblk : blk < w.heap.size) (hsz : d.size < 4611686018427387904) :
    Calls Try.prog 53 #[.slice (some ⟨blk, off, none⟩) d.size cap] w fun e w' => e = .returned (.tuple #[]) ∧ ∃ n os, w' = grow (putRow encF (Sort.ahead w n) blk off (Sort.sort ltF d)) os := by
  have HH : Hid (Holds encF w blk off d) := hH
  clear hH
  have hLen : ∀ w, Calls Try.prog 55 #[.int .u64 (d.size : Int)] w fun e w' => e = .returned (.int .i64 (bitsLen d.size : Nat)) ∧ w' = w := fun w => by
    have h := bits_Len (d.size : Int) w (by omega) (by omega)
    rwa [Int.toNat_natCast, bitLen_eq _ (by omega)] at h
  have hk : bitsLen d.size ≤ 62 := (bitsLen_le_iff d.size 62).2 (by omega)
  go_enter Try.func53, Try.ntmps53
  go_wp2_with (first
    | (go_at_call 55; refine (hLen _).mono ?_; rintro e w' ⟨rfl, rfl⟩)
    | (go_at_call 59; refine (flt_pdqsort fltCallees fltPlain (d.size - 0 + 1) blk off cap 0 d.size (bitsLen d.size) d _ (by omega) (by exact HH.out) (by exact hblk) (Nat.zero_le _) (Nat.le_refl _) hsz (by omega) (Or.inl rfl)).mono ?_; rintro e w' ⟨rfl, n, os, rfl⟩))
  go_end0
  exact ⟨rfl, n, os, rfl⟩

/-- slices.Sort at []float64: A PERMUTATION, ASCENDING; nothing else turns but draws and new blocks. -/
theorem sort_flt (blk off cap : Nat) (zs : List Nat) (w : World) (hH : Holds encF w blk off zs.toArray) (hblk : blk < w.heap.size) (hsz : zs.length < 4611686018427387904) :
    Calls Try.prog 53 #[.slice (some ⟨blk, off, none⟩) zs.length cap] w fun e w' =>
      e = .returned (.tuple #[]) ∧ ∃ (ss : List Nat) (n : Nat) (os : Array Obj), ss.Perm zs ∧ ss.Pairwise (fun x y => ltF y x = false) ∧ w' = grow (putRow encF (Sort.ahead w n) blk off ss.toArray) os := by
  have h := flt_Sort blk off cap zs.toArray w hH hblk (by simpa using hsz)
  have hs := sort_sorts ltF swo_ltF zs.toArray
  simp only [List.size_toArray] at h hs
  refine h.mono ?_
  rintro e w' ⟨rfl, n, os, rfl⟩
  obtain ⟨⟨h1, -, h3⟩, h4⟩ := hs
  have e1 : (Sort.sort ltF zs.toArray).size = zs.length := by simpa using h1
  refine ⟨rfl, (Sort.sort ltF zs.toArray).toList, n, os, ?_, ?_, by simp⟩
  · rw [← e1] at h3
    simp only [Array.extract_size] at h3
    refine h3.trans ?_
    rw [e1]; simp
  · rw [List.pairwise_iff_getElem]
    intro i j hi hj hij
    have := h4 i j (Nat.zero_le _) hij (by rw [← e1]; simpa using hj)
    rw [getElem!_pos _ _ (by simpa using hj), getElem!_pos _ _ (by simpa using hi)] at this
    simpa using this
end Go.Proofs.Qxb6601491a
