import Derived.Test.Qxb6600826aProg
import Derived.Test.Qxb6600826aPlain
import Derived.WalkKit
import Derived.WalkSpells
import Derived.WalkLawsBesides
namespace Go.Proofs.Qxb6600826a
open Go.RowKit

/-! ### The plain steps, in the walk's own spelling -/
theorem size_list (s : ByteArray) : s.size = s.data.toList.length := by
  simp only [Array.length_toList]
  rfl

theorem cut_list (s : ByteArray) (a b : Nat) : (s.extract a b).toList = (s.data.toList.drop a).take (b - a) := by
  obtain ⟨⟨l⟩⟩ := s
  rw [ByteArray.extract_mk]
  simp

theorem two_at (l : List UInt8) (k : Nat) (h : k + 1 < l.length) : ∃ a b, l.drop k = a :: b :: l.drop (k + 2) ∧ (l.drop k).take 2 = [a, b] ∧ l.drop (k + 1) = b :: l.drop (k + 2) := by
  refine ⟨l[k], l[k + 1], ?_, ?_, ?_⟩
  · rw [List.drop_eq_getElem_cons (by omega : k < l.length), List.drop_eq_getElem_cons h]
  · rw [List.drop_eq_getElem_cons (by omega : k < l.length), List.drop_eq_getElem_cons h]; rfl
  · rw [List.drop_eq_getElem_cons h]

theorem ans_map (k j : Nat) (o : Option Nat) : Plain.ans k (o.map (· + j)) = Plain.ans (k + j) o := by
  cases o with
  | none => rfl
  | some n => simp [Plain.ans]; omega

theorem cut_two (s : ByteArray) (k : Nat) : (s.extract k (k + 2)).toList = (s.data.toList.drop k).take 2 := by
  rw [cut_list]; congr 1; omega

theorem step_open (s : ByteArray) (k : Nat) (z : Int) (h : k + 1 < s.size) (t : ((s.extract k (k + 2)).toList == [47, 42]) = true) :
    Plain.ans k (Plain.scan (s.data.toList.drop k) z) = Plain.ans (k + 2) (Plain.scan (s.data.toList.drop (k + 2)) (z + 1)) := by
  rw [size_list] at h
  obtain ⟨a, b, e1, e2, -⟩ := two_at s.data.toList k h
  rw [cut_two, e2] at t
  simp at t
  obtain ⟨rfl, rfl⟩ := t
  rw [e1, Plain.scan_open, ans_map]

theorem step_close (s : ByteArray) (k : Nat) (z : Int) (h : k + 1 < s.size) (t : ((s.extract k (k + 2)).toList == [42, 47]) = true) (hz : (z - 1 == 0) = false) :
    Plain.ans k (Plain.scan (s.data.toList.drop k) z) = Plain.ans (k + 2) (Plain.scan (s.data.toList.drop (k + 2)) (z - 1)) := by
  rw [size_list] at h
  obtain ⟨a, b, e1, e2, -⟩ := two_at s.data.toList k h
  rw [cut_two, e2] at t
  simp at t
  obtain ⟨rfl, rfl⟩ := t
  rw [e1, Plain.scan_close, if_neg (by simpa using hz), ans_map]

theorem step_end (s : ByteArray) (k : Nat) (z : Int) (h : k + 1 < s.size) (t : ((s.extract k (k + 2)).toList == [42, 47]) = true) (hz : (z - 1 == 0) = true) :
    Plain.ans k (Plain.scan (s.data.toList.drop k) z) = (k : Int) + 2 := by
  rw [size_list] at h
  obtain ⟨a, b, e1, e2, -⟩ := two_at s.data.toList k h
  rw [cut_two, e2] at t
  simp at t
  obtain ⟨rfl, rfl⟩ := t
  rw [e1, Plain.scan_close, if_pos (by simpa using hz)]
  rfl

theorem step_other (s : ByteArray) (k : Nat) (z : Int) (h : k + 1 < s.size) (t1 : ((s.extract k (k + 2)).toList == [47, 42]) = false) (t2 : ((s.extract k (k + 2)).toList == [42, 47]) = false) :
    Plain.ans k (Plain.scan (s.data.toList.drop k) z) = Plain.ans (k + 1) (Plain.scan (s.data.toList.drop (k + 1)) z) := by
  rw [size_list] at h
  obtain ⟨a, b, e1, e2, e3⟩ := two_at s.data.toList k h
  rw [cut_two, e2] at t1 t2
  simp only [beq_eq_false_iff_ne, ne_eq, List.cons.injEq, and_true] at t1 t2
  rw [e1, e3, Plain.scan_other a b _ z t1 t2, ans_map]

theorem step_out (s : ByteArray) (k : Nat) (z : Int) (h : ¬ k + 1 < s.size) : Plain.ans k (Plain.scan (s.data.toList.drop k) z) = -1 := by
  rw [size_list] at h
  have : (s.data.toList.drop k).length ≤ 1 := by rw [List.length_drop]; omega
  match e : s.data.toList.drop k, this with
  | [], _ => rfl
  | [a], _ => rfl
  | a :: b :: r, h => simp at h

theorem ret_int {k : IntKind} {a b : Int} (h : a = b) : Ending.returned (.int k a) = .returned (.int k b) := by rw [h]

set_option maxHeartbeats 400000 in
/-- 'blockCommentEnd', at every text of less than 2^62 bytes. -/
theorem bce_any (s : ByteArray) (w : World) (hs : s.size ≤ 4611686018427387904) :
    Calls Try.prog 26 #[.string s] w fun e w' => e = .returned (.int .i64 (Plain.bce s.data.toList)) ∧ w' = w := by
  go_enter Try.func26, Try.ntmps26
  go_wp2
  go_loop [3, 4] (fun d i => ∃ (k : Nat) (z : Int), k ≤ s.size ∧ i = .int .i64 k ∧ d = .int .i64 z ∧ -(k : Int) ≤ z ∧ z ≤ k ∧ Plain.bce s.data.toList = Plain.ans k (Plain.scan (s.data.toList.drop k) z)) (fun _ i => s.size - (intOf i).toNat)
  case atStart => exact ⟨0, 0, Nat.zero_le _, rfl, rfl, by omega, by omega, rfl⟩
  case round =>
    obtain ⟨k, z, hk, rfl, rfl, hz1, hz2, hb⟩ := hrel
    have HB : Hid (Plain.bce s.data.toList = Plain.ans k (Plain.scan (s.data.toList.drop k) z)) := hb
    clear hb
    by_cases hlt : k + 1 < s.size
    · go_wp2
      · have t : ((s.extract k (k + 2)).toList == [47, 42]) = true := by assumption
        go_round
        case rel => exact ⟨k + 2, z + 1, by omega, by go_num, rfl, by omega, by omega, by rw [HB.out, step_open s k z hlt t]⟩
        case measure => simp [intOf]; omega
      · have t : ((s.extract k (k + 2)).toList == [42, 47]) = true := by assumption
        have hz : (z - 1 == 0) = true := by assumption
        go_ret
        exact ⟨ret_int (by rw [HB.out, step_end s k z hlt t hz]), rfl⟩
      · have t : ((s.extract k (k + 2)).toList == [42, 47]) = true := by assumption
        have hz : (z - 1 == 0) = false := by assumption
        go_round
        case rel => exact ⟨k + 2, z - 1, by omega, by go_num, rfl, by omega, by omega, by rw [HB.out, step_close s k z hlt t hz]⟩
        case measure => simp [intOf]; omega
      · have t1 : ((s.extract k (k + 2)).toList == [47, 42]) = false := by assumption
        have t2 : ((s.extract k (k + 2)).toList == [42, 47]) = false := by assumption
        go_round
        case rel => exact ⟨k + 1, z, by omega, by go_num, rfl, by omega, by omega, by rw [HB.out, step_other s k z hlt t1 t2]⟩
        case measure => simp [intOf]; omega
    · go_wp2
      go_ret
      exact ⟨ret_int (by rw [HB.out, step_out s k z hlt]), rfl⟩

set_option maxHeartbeats 400000 in
/-- 'ZZBlockCommentEnd': the same. -/
theorem zz_any (s : ByteArray) (w : World) (hs : s.size ≤ 4611686018427387904) :
    Calls Try.prog 10 #[.string s] w fun e w' => e = .returned (.int .i64 (Plain.bce s.data.toList)) ∧ w' = w := by
  go_enter Try.func10, Try.ntmps10
  go_wp2_with (go_at_call 26; refine (bce_any _ _ hs).mono ?_; rintro e w' ⟨rfl, rfl⟩)
  go_ret
  exact ⟨rfl, rfl⟩
end Go.Proofs.Qxb6600826a
