/-
  zzCloneFloats, median, ZZMedian, zzBytes: walked.
-/
import Derived.Test.Qxb6601491aFltB
import Derived.Test.Qxb6601491aSortI
import Derived.Lib.LazyBuf
import Derived.Sort.OwnSorted
namespace Go.Proofs.Qxb6601491a
open Go.RowKit Go.Sort Fl
attribute [local go_sem] run_store_float

theorem Try.info61 : (Try.prog.info? 61).map (fun i => (i.zero, i.size, i.bytes)) = some (some (.float .f64 0), 1, 8) := by kernel_rfl

theorem clone_set (zs : List Nat) (k : Nat) (hk : k < zs.length) :
    ((zs.take k).map encF ++ List.replicate (zs.length - k) (encF 0)).set k (encF (zs.getD k 0)) = (zs.take (k + 1)).map encF ++ List.replicate (zs.length - (k + 1)) (encF 0) := by
  apply List.ext_getElem?
  intro j
  rw [List.getElem?_set]
  by_cases hj : k = j
  · subst hj
    rw [if_pos rfl, if_pos (by simp; omega)]
    rw [List.getElem?_append_left (by simp; omega)]
    simp [List.getD, hk]
  · rw [if_neg hj]
    by_cases hlt : j < k
    · rw [List.getElem?_append_left (by simp; omega), List.getElem?_append_left (by simp; omega)]
      simp [hlt, show j < k + 1 by omega]
    · rw [List.getElem?_append_right (by simp; omega), List.getElem?_append_right (by simp; omega)]
      simp only [List.length_map, List.length_take, List.getElem?_replicate]
      rw [Nat.min_eq_left (by omega), Nat.min_eq_left (by omega)]
      by_cases h2 : j < zs.length
      · rw [if_pos (by omega), if_pos (by omega)]
      · rw [if_neg (by omega), if_neg (by omega)]

theorem holds_of_row {w : World} {base g n cap : Nat} {zs : List Nat} (hn : zs.length = n) (h : w.ownsRow base 61 1 (.slice (some ⟨g, 0, none⟩) n cap) n (zs.map encF)) : Holds encF w g 0 zs.toArray := by
  intro j hj
  have hj' : j < zs.length := by simpa using hj
  refine ⟨?_, by rw [Nat.zero_add]; exact h.frozenAt j⟩
  rw [Nat.zero_add, h.cellAt j (by omega)]
  simp [hj']

set_option maxHeartbeats 400000 in
/-- 'zzCloneFloats' of a slice that is not empty: a new row that holds the same. -/
theorem clone_zz (blk off cap : Nat) (zs : List Nat) (w : World) (h0 : 0 < zs.length) (hn : zs.length ≤ 4096) (hblk : blk < w.heap.size) (hc : ∀ t, t < zs.length → w.cell? ⟨blk, off + t, none⟩ = some (.float .f64 (zs.getD t 0))) :
    Calls Try.prog 29 #[.slice (some ⟨blk, off, none⟩) zs.length cap] w fun e w' =>
      e = .returned (.slice (some ⟨w.heap.size, 0, none⟩) zs.length zs.length) ∧ Holds encF w' w.heap.size 0 zs.toArray ∧ Below w.heap.size w w' ∧ w.heap.size < w'.heap.size := by
  obtain ⟨i0, hi, hz0, hz1, hz2⟩ := info_parts Try.info61
  have hnil := fun w => Lib.run_eql_slice_nil (P := Try.prog) w 58 61 (some ⟨blk, off, none⟩) zs.length cap 0 0 Try.underlying58
  go_enter Try.func29, Try.ntmps29
  go_wp2_with (at_make; refine wpList_make_full _ rfl _ _ 58 rfl w.heap.size 61 i0 (.float .f64 0) 1 Try.underlying58 hi hz0 hz1 .i64 .i64 _ _ zs.length rfl rfl rfl rfl (by rw [hz2]; omega) (by unfold maxLen; omega) (Nat.le_refl _) ?_; intro w1 hown hgrow)
  have hown0 : w1.ownsRow w.heap.size 61 1 (.slice (some ⟨w.heap.size, 0, none⟩) zs.length zs.length) zs.length ((zs.take 0).map encF ++ List.replicate (zs.length - 0) (encF 0)) := by
    have e : (madeCells (Value.float FloatKind.f64 0).cells (zs.length * 1)).toList = (zs.take 0).map encF ++ List.replicate (zs.length - 0) (encF 0) := by
      rw [Nat.mul_one]; exact toList_madeCells_one _ _
    rw [← e]; exact hown
  have hb0 : Below w.heap.size w w1 := (Below.refl _ _).grown hgrow (Nat.le_refl _) (fun k hk => by cases hk)
  clear hown hgrow hi hz0 hz1 hz2 hnil
  go_loopw [4] (fun vi wr => ∃ k : Nat, k ≤ zs.length ∧ vi = .int .i64 k ∧ wr.ownsRow w.heap.size 61 1 (.slice (some ⟨w.heap.size, 0, none⟩) zs.length zs.length) zs.length ((zs.take k).map encF ++ List.replicate (zs.length - k) (encF 0)) ∧ Below w.heap.size w wr) (fun vi _ => zs.length - (intOf vi).toNat)
  case atStart => exact ⟨0, Nat.zero_le _, rfl, hown0, hb0⟩
  case round =>
    obtain ⟨k, hk, rfl, hown, hb⟩ := hrel
    clear hown0 hb0
    by_cases hlt : k < zs.length
    · have hst := hown.stored k (encF (zs.getD k 0))
      rw [clone_set zs k hlt] at hst
      have hbs : Below w.heap.size w (wr.setCell ⟨w.heap.size, k, none⟩ (encF (zs.getD k 0))) := hb.setCell (Nat.le_refl _) _
      have hcs : wr.cell? ⟨blk, off + k, none⟩ = some (.float .f64 (zs.getD k 0)) := (hb.cell (p := ⟨blk, off + k, none⟩) hblk).trans (hc k hlt)
      obtain ⟨v0, hv0⟩ : ∃ v0, wr.cell? ⟨w.heap.size, k, none⟩ = some v0 := by
        have h1 := hown.cellAt k (by omega)
        have h2 : k < ((zs.take k).map encF ++ List.replicate (zs.length - k) (encF 0)).length := by simp; omega
        rw [List.getElem?_eq_getElem h2] at h1
        exact ⟨_, h1⟩
      have hf0 := hown.frozenAt k
      obtain ⟨g, hg⟩ : ∃ g, g = zs.getD k 0 := ⟨_, rfl⟩
      rw [← hg] at hst hbs hcs
      have H1 : Hid _ := hst.1
      have H2 : Hid _ := hbs
      clear hst hbs hown hb hc hg
      go_wp2
      go_roundw
      case rel => exact ⟨k + 1, by omega, by go_num, H1.out, H2.out⟩
      case measure => simp [intOf]; omega
    · have hkn : k = zs.length := by omega
      subst hkn
      have hh : Holds encF wr w.heap.size 0 zs.toArray := holds_of_row rfl (by simpa using hown)
      have hsz : w.heap.size < wr.heap.size := (hown.lt w.heap.size rfl).2
      have H1 : Hid _ := hh
      clear hh hown
      go_wp2
      go_ret
      exact ⟨rfl, H1.out, hb, hsz⟩
end Go.Proofs.Qxb6601491a
