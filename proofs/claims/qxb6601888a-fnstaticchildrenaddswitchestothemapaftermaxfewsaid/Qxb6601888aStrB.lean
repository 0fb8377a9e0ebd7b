/-
  zzCloneStrings, zzFirstIndex, zzIndexOf: walked.
-/
import Derived.Test.Qxb6601888aStrA
import Derived.Lib.LazyBuf
import Derived.Deep.QuietTactic
import Derived.BigQuiet
namespace Go.Proofs.Qxb6601888a
open Go.RowKit

theorem Try.info9 : (Try.prog.info? 9).map (fun i => (i.zero, i.size, i.bytes)) = some (some (.string ⟨#[]⟩), 1, 16) := by kernel_rfl

/-- The cells of n strings. -/
def strCells (G : Nat → ByteArray) (n : Nat) : List Value := (List.range n).map fun t => .string (G t)

theorem strCells_length (G : Nat → ByteArray) (n : Nat) : (strCells G n).length = n := by simp [strCells]

theorem clone_set (G : Nat → ByteArray) (n k : Nat) (z : Value) (hk : k < n) :
    (strCells G k ++ List.replicate (n - k) z).set k (.string (G k)) = strCells G (k + 1) ++ List.replicate (n - (k + 1)) z := by
  have e : n - k = (n - (k + 1)) + 1 := by omega
  rw [e, List.replicate_succ]
  have l := strCells_length G k
  rw [List.set_append_right _ _ (by omega), l, Nat.sub_self, List.set_cons_zero]
  simp [strCells, List.range_succ]

/-- What 'zzCloneStrings' leaves. -/
def Cloned (w w' : World) (n : Nat) (G : Nat → ByteArray) (e : Ending) : Prop :=
  ∃ a, e = .returned (.slice a n n) ∧ (n = 0 ∨ (a = some ⟨w.heap.size, 0, none⟩ ∧ w'.ownsRow w.heap.size 9 1 (.slice (some ⟨w.heap.size, 0, none⟩) n n) n (strCells G n))) ∧ Below w.heap.size w w'

set_option maxHeartbeats 400000 in
theorem clone_some (blk off cap n : Nat) (G : Nat → ByteArray) (w : World) (h0 : 0 < n) (hn : n ≤ 4096) (hblk : blk < w.heap.size) (hc : ∀ t, t < n → w.cell? ⟨blk, off + t, none⟩ = some (.string (G t))) :
    Calls Try.prog 16 #[.slice (some ⟨blk, off, none⟩) n cap] w fun e w' => Cloned w w' n G e := by
  obtain ⟨i0, hi, hz0, hz1, hz2⟩ := info_parts Try.info9
  have hnil := fun w => Lib.run_eql_slice_nil (P := Try.prog) w 28 9 (some ⟨blk, off, none⟩) n cap 0 0 Try.underlying28
  go_enter Try.func16, Try.ntmps16
  go_wp2_with (at_make; refine wpList_make_full _ rfl _ _ 28 rfl w.heap.size 9 i0 (.string ⟨#[]⟩) 1 Try.underlying28 hi hz0 hz1 .i64 .i64 _ _ n rfl rfl rfl rfl (by rw [hz2]; omega) (by unfold maxLen; omega) (Nat.le_refl _) ?_; intro w1 hown hgrow)
  have hown0 : w1.ownsRow w.heap.size 9 1 (.slice (some ⟨w.heap.size, 0, none⟩) n n) n (strCells G 0 ++ List.replicate (n - 0) (.string ⟨#[]⟩)) := by
    have e : (madeCells (Value.string ⟨#[]⟩).cells (n * 1)).toList = strCells G 0 ++ List.replicate (n - 0) (.string ⟨#[]⟩) := by
      rw [Nat.mul_one]; exact toList_madeCells_one _ _
    rw [← e]; exact hown
  have hb0 : Below w.heap.size w w1 := (Below.refl _ _).grown hgrow (Nat.le_refl _) (fun k hk => by cases hk)
  clear hown hgrow hi hz0 hz1 hz2 hnil
  go_loopw [4] (fun vi wr => ∃ k : Nat, k ≤ n ∧ vi = .int .i64 k ∧ wr.ownsRow w.heap.size 9 1 (.slice (some ⟨w.heap.size, 0, none⟩) n n) n (strCells G k ++ List.replicate (n - k) (.string ⟨#[]⟩)) ∧ Below w.heap.size w wr) (fun vi _ => n - (intOf vi).toNat)
  case atStart => exact ⟨0, Nat.zero_le _, rfl, hown0, hb0⟩
  case round =>
    obtain ⟨k, hk, rfl, hown, hb⟩ := hrel
    clear hown0 hb0
    by_cases hlt : k < n
    · have hst := hown.stored k (.string (G k))
      rw [clone_set G n k _ hlt] at hst
      have hbs : Below w.heap.size w (wr.setCell ⟨w.heap.size, k, none⟩ (.string (G k))) := hb.setCell (Nat.le_refl _) _
      have hcs : wr.cell? ⟨blk, off + k, none⟩ = some (.string (G k)) := (hb.cell (p := ⟨blk, off + k, none⟩) hblk).trans (hc k hlt)
      obtain ⟨v0, hv0⟩ : ∃ v0, wr.cell? ⟨w.heap.size, k, none⟩ = some v0 := by
        have h1 := hown.cellAt k (by omega)
        have h2 : k < (strCells G k ++ List.replicate (n - k) (Value.string ⟨#[]⟩)).length := by simp [strCells_length]; omega
        rw [List.getElem?_eq_getElem h2] at h1
        exact ⟨_, h1⟩
      have hf0 := hown.frozenAt k
      have H1 : Hid _ := hst.1
      have H2 : Hid _ := hbs
      clear hst hbs hown hb hc
      go_wp2
      go_roundw
      case rel => exact ⟨k + 1, by omega, by go_num, H1.out, H2.out⟩
      case measure => simp [intOf]; omega
    · have hkn : k = n := by omega
      subst hkn
      have hh : wr.ownsRow w.heap.size 9 1 (.slice (some ⟨w.heap.size, 0, none⟩) k k) k (strCells G k) := by simpa using hown
      have H1 : Hid _ := hh
      clear hh hown
      go_wp2
      go_ret
      exact ⟨_, rfl, .inr ⟨rfl, H1.out⟩, hb⟩

theorem clone_none (a : Option Addr) (cap : Nat) (G : Nat → ByteArray) (w : World) (ha : a = none → cap = 0) :
    Calls Try.prog 16 #[.slice a 0 cap] w fun e w' => Cloned w w' 0 G e := by
  cases a with
  | none =>
    obtain rfl := ha rfl
    clear ha
    have hnil := fun w => Lib.run_eql_slice_nil (P := Try.prog) w 28 9 none 0 0 0 0 Try.underlying28
    go_enter Try.func16, Try.ntmps16
    go_wp2
    go_ret
    exact ⟨none, rfl, .inl rfl, Below.refl _ _⟩
  | some a =>
    clear ha
    obtain ⟨i0, hi, hz0, hz1, hz2⟩ := info_parts Try.info9
    have hnil := fun w => Lib.run_eql_slice_nil (P := Try.prog) w 28 9 (some a) 0 cap 0 0 Try.underlying28
    go_enter Try.func16, Try.ntmps16
    go_wp2_with (at_make; refine wpList_make_full _ rfl _ _ 28 rfl w.heap.size 9 i0 (.string ⟨#[]⟩) 1 Try.underlying28 hi hz0 hz1 .i64 .i64 _ _ 0 rfl rfl rfl rfl (by rw [hz2]; omega) (by unfold maxLen; omega) (Nat.le_refl _) ?_; intro w1 hown hgrow)
    have hb0 : Below w.heap.size w w1 := (Below.refl _ _).grown hgrow (Nat.le_refl _) (fun k hk => by cases hk)
    clear hown hgrow hi hz0 hz1 hz2 hnil
    refine wp_loop_rounds 1 ?_
    rw [rounds_succ]
    go_wp2
    go_ret
    exact ⟨_, rfl, .inl rfl, hb0⟩

/-- Two texts, alike. -/
def eqs (x y : ByteArray) : Bool := x.toList == y.toList

theorem eqs_iff {x y : ByteArray} : eqs x y = true ↔ x = y := by
  unfold eqs
  rw [ByteArray.toList_eq, ByteArray.toList_eq]
  constructor
  · intro h
    have h' : x.data.toList = y.data.toList := by simpa using h
    cases x; cases y; simp at h'; rw [h']
  · rintro rfl; simp

/-- The first place of the i-th text. -/
def fstI (G : Nat → ByteArray) (i : Nat) : Nat := (List.range i).findIdx (fun j => eqs (G j) (G i))

theorem findIdx_range {p : Nat → Bool} {i j : Nat} (hj : j ≤ i) (hno : ∀ k, k < j → p k = false) (hyes : j < i → p j = true) : (List.range i).findIdx p = j := by
  by_cases h : j < i
  · rw [List.findIdx_eq (by simpa using h)]
    exact ⟨by simpa using hyes h, fun k hk => by simpa using hno k hk⟩
  · obtain rfl : j = i := by omega
    have : (List.range j).findIdx p = (List.range j).length := by
      rw [List.findIdx_eq_length]
      intro x hx
      exact hno x (by simpa using hx)
    simpa using this

set_option maxHeartbeats 400000 in
theorem first_zz (blk off cap n i : Nat) (G : Nat → ByteArray) (w : World) (hn : n ≤ 4096) (hi : i < n) (hc : ∀ t, t < n → w.cell? ⟨blk, off + t, none⟩ = some (.string (G t))) :
    Calls Try.prog 17 #[.slice (some ⟨blk, off, none⟩) n cap, .int .i64 i] w fun e w' => e = .returned (.int .i64 (fstI G i : Nat)) ∧ ∃ q, w' = w.drewN q := by
  have hci := hc i hi
  go_enter Try.func17, Try.ntmps17
  go_wp2
  go_loopw [5] (fun vj wr => ∃ (j q : Nat), j ≤ i ∧ vj = .int .i64 j ∧ wr = w.drewN q ∧ (∀ k, k < j → eqs (G k) (G i) = false)) (fun vj _ => i - (intOf vj).toNat)
  case atStart => exact ⟨0, 0, Nat.zero_le _, rfl, rfl, fun k hk => absurd hk (Nat.not_lt_zero _)⟩
  case round =>
    obtain ⟨j, q, hj, rfl, hwr, hno⟩ := hrel
    have HNO : Hid (∀ k, k < j → eqs (G k) (G i) = false) := hno
    clear hno
    by_cases hlt : j < i
    · have d1 : wr.cell? ⟨blk, off + j, none⟩ = some (.string (G j)) := by rw [hwr]; exact hc j (by omega)
      have d2 : wr.cell? ⟨blk, off + i, none⟩ = some (.string (G i)) := by rw [hwr]; exact hci
      have HW : Hid (wr = w.drewN q) := hwr
      clear hwr hc hci
      cases hq : eqs (G j) (G i) with
      | true =>
        have HF : Hid (fstI G i = j) := findIdx_range hj HNO.out (fun _ => hq)
        unfold eqs at hq
        go_wp2_with fail
        go_quiet (fail)
        go_wp2_with fail
        go_ret
        exact ⟨by rw [HF.out]; rfl, q + nq, by rw [HW.out, World.drewN_drewN]⟩
      | false =>
        have HN2 : Hid (∀ k, k < j + 1 → eqs (G k) (G i) = false) := fun k hk => by
          by_cases e : k = j
          · subst e; exact hq
          · exact HNO.out k (by omega)
        unfold eqs at hq
        go_wp2_with fail
        go_quiet (fail)
        go_wp2_with fail
        go_roundw
        case rel => exact ⟨j + 1, q + nq, by omega, by go_num, by rw [HW.out, World.drewN_drewN], HN2.out⟩
        case measure => simp [intOf]; omega
    · have HF : Hid (fstI G i = i) := findIdx_range (Nat.le_refl _) (fun k hk => HNO.out k (by omega)) (fun h => by omega)
      subst hwr
      go_wp2_with fail
      go_ret
      exact ⟨by rw [HF.out]; rfl, q, rfl⟩

/-- The first place of a text, or -1. -/
def idxOf (G : Nat → ByteArray) (n : Nat) (t : ByteArray) : Int := if (List.range n).findIdx (fun j => eqs (G j) t) < n then ((List.range n).findIdx (fun j => eqs (G j) t) : Nat) else -1

set_option maxHeartbeats 400000 in
theorem index_zz (a : Option Addr) (cap n : Nat) (t : ByteArray) (G : Nat → ByteArray) (w : World) (hn : n ≤ 4096) (hA : Strs w a n G) :
    Calls Try.prog 21 #[.slice a n cap, .string t] w fun e w' => e = .returned (.int .i64 (idxOf G n t)) ∧ w' = w := by
  have HA : Hid (Strs w a n G) := hA
  clear hA
  go_enter Try.func21, Try.ntmps21
  go_wp2
  go_loop [5] (fun vj => ∃ (j : Nat), j ≤ n ∧ vj = .int .i64 j ∧ (∀ k, k < j → eqs (G k) t = false)) (fun vj => n - (intOf vj).toNat)
  case atStart => exact ⟨0, Nat.zero_le _, rfl, fun k hk => absurd hk (Nat.not_lt_zero _)⟩
  case round =>
    obtain ⟨j, hj, rfl, hno⟩ := hrel
    have HNO : Hid (∀ k, k < j → eqs (G k) t = false) := hno
    clear hno
    by_cases hlt : j < n
    · obtain ⟨blk, off, ha, hc⟩ := strs_at HA.out (by omega)
      have d1 := hc j hlt
      rw [ha]
      clear ha hc
      cases hq : eqs (G j) t with
      | true =>
        have HF : Hid (idxOf G n t = j) := by
          show _ = _
          unfold idxOf
          rw [findIdx_range hj HNO.out (fun _ => hq), if_pos hlt]
        unfold eqs at hq
        go_wp2_with fail
        go_ret
        exact ⟨by rw [HF.out]; rfl, rfl⟩
      | false =>
        have HN2 : Hid (∀ k, k < j + 1 → eqs (G k) t = false) := fun k hk => by
          by_cases e : k = j
          · subst e; exact hq
          · exact HNO.out k (by omega)
        unfold eqs at hq
        go_wp2_with fail
        go_round
        case rel => exact ⟨j + 1, by omega, by go_num, HN2.out⟩
        case measure => simp [intOf]; omega
    · have HF : Hid (idxOf G n t = -1) := by
        show _ = _
        unfold idxOf
        rw [findIdx_range (Nat.le_refl n) (fun k hk => HNO.out k (by omega)) (fun h => by omega), if_neg (by omega)]
      go_wp2_with fail
      go_ret
      exact ⟨by rw [HF.out]; rfl, rfl⟩
end Go.Proofs.Qxb6601888a
