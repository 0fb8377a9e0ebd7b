import Derived.Test.Qxb6600826aProg
import Derived.Test.Qxb6600826aWalkB
import Derived.WalkKit
import Derived.WalkSpells
import Derived.WalkLawsBesides
import Derived.OpenShut
namespace Go.Proofs.Qxb6600826a
open Go.RowKit

set_option maxHeartbeats 400000 in
theorem fit3_yes (a b : ByteArray) (c : Int) (w : World) (h : a.size + b.size ≤ 1048576) :
    Calls Try.prog 9 #[.string a, .string b, .int .u32 c] w fun e w' => e = .returned (.bool true) ∧ w' = w := by
  go_enter Try.func9, Try.ntmps9
  go_wp2
  go_ret
  exact ⟨rfl, rfl⟩

set_option maxHeartbeats 400000 in
theorem fit3_no (a b : ByteArray) (c : Int) (w : World) (ha : a.size ≤ maxLen) (hb : b.size ≤ maxLen) (h : ¬ a.size + b.size ≤ 1048576) :
    Calls Try.prog 9 #[.string a, .string b, .int .u32 c] w fun e w' => e = .returned (.bool false) ∧ w' = w := by
  unfold maxLen at ha hb
  by_cases h1 : 1048576 < a.size
  · go_enter Try.func9, Try.ntmps9
    go_wp2
    go_ret
    exact ⟨rfl, rfl⟩
  · by_cases h2 : 1048576 < b.size
    · go_enter Try.func9, Try.ntmps9
      go_wp2
      go_ret
      exact ⟨rfl, rfl⟩
    · go_enter Try.func9, Try.ntmps9
      go_wp2
      go_ret
      exact ⟨rfl, rfl⟩

theorem rem_nat (c : Int) (m : Nat) (hm : 0 < m) (hm2 : m ≤ 9000000) : ∃ k : Nat, wrap64 (c % (m : Int)) = k ∧ k < m := by
  have h1 : 0 ≤ c % (m : Int) := Int.emod_nonneg _ (by omega)
  have h2 : c % (m : Int) < m := Int.emod_lt_of_pos _ (by omega)
  refine ⟨(c % (m : Int)).toNat, ?_, by omega⟩
  unfold wrap64; omega

set_option maxHeartbeats 400000 in
theorem first_neg (a0 a1 : ByteArray) (c : Int) (w : World) (hc0 : 0 ≤ c) (hc1 : c ≤ 4294967295) (h : a0.size + a1.size ≤ 1048576) (h0 : a0.size ≤ 524288) (h1 : a1.size ≤ 524288)
    (HR : Hid (Plain.bce (47 :: 42 :: a0.data.toList) = -1)) :
    Calls Try.prog 3 #[.string a0, .string a1, .int .u32 c] w fun e w' => e = .returned (.bool true) ∧ Grown w w' := by
  obtain ⟨k, hk, hk2⟩ := rem_nat c (2 + a0.size + 1) (by omega) (by omega)
  have hk' : wrap64 (c % (2 + (a0.size : Int) + 1)) = k := by rw [← hk]; congr 1
  clear hk
  go_enter Try.func3, Try.ntmps3
  go_wp2_with (go_at_call 9; refine (fit3_yes _ _ _ _ h).mono ?_; rintro e w' ⟨rfl, rfl⟩)
  refine (zz_at _ _ (-1) _ (open_list a0) HR.out (by rw [open_size]; omega)).mono ?_
  rintro e w' ⟨rfl, rfl⟩
  go_wp2_with fail
  refine (zz_at _ _ (-1) _ (cut_data _ k) (by rw [open_list]; exact Plain.bce_take_none (Or.inl HR.out)) (by have := cut_size (({ data := #[47, 42] } : ByteArray) ++ a0) k; rw [open_size] at this; omega)).mono ?_
  rintro e w' ⟨rfl, rfl⟩
  go_wp2_with fail
  go_ret
  exact ⟨rfl, Grown.refl _⟩

theorem byte_at (s : ByteArray) (i : Nat) (x : UInt8) (h : s.data.toList[i]? = some x) (hi : i < s.size) : (s[i]'hi).toNat = x.toNat := by
  have e : s[i] = x := by
    have : s.data.toList[i]? = some s[i] := by
      rw [List.getElem?_eq_getElem (by rw [← size_list]; exact hi)]
      rfl
    rw [this] at h
    simpa using h
  rw [e]

set_option maxHeartbeats 800000 in
theorem first_pos (a0 a1 : ByteArray) (c : Int) (w : World) (n : Nat) (hc0 : 0 ≤ c) (hc1 : c ≤ 4294967295) (h : a0.size + a1.size ≤ 1048576) (h0 : a0.size ≤ 524288) (h1 : a1.size ≤ 524288)
    (HR : Hid (Plain.bce (47 :: 42 :: a0.data.toList) = n)) (hn0 : 4 ≤ n) (hn1 : n ≤ a0.size + 2) :
    Calls Try.prog 3 #[.string a0, .string a1, .int .u32 c] w fun e w' => e = .returned (.bool true) ∧ Grown w w' := by
  obtain ⟨k, hk', hk2⟩ := rem_nat c n (by omega) (by omega)
  have hge : 0 ≤ Plain.bce (47 :: 42 :: a0.data.toList) := by rw [HR.out]; omega
  have hby := Plain.bce_bytes hge
  rw [HR.out, Int.toNat_natCast, ← open_list] at hby
  have hb2 := byte_at _ _ _ hby.1 (by rw [open_size]; omega)
  have hb1 := byte_at _ _ _ hby.2 (by rw [open_size]; omega)
  have e2 : (42 : UInt8).toNat = 42 := rfl
  have e1 : (47 : UInt8).toNat = 47 := rfl
  rw [e2] at hb2
  rw [e1] at hb1
  clear hby e1 e2 hge
  go_enter Try.func3, Try.ntmps3
  go_wp2_with (go_at_call 9; refine (fit3_yes _ _ _ _ h).mono ?_; rintro e w' ⟨rfl, rfl⟩)
  refine (zz_at _ _ n _ (open_list a0) HR.out (by rw [open_size]; omega)).mono ?_
  rintro e w' ⟨rfl, rfl⟩
  go_wp2_with fail
  refine (zz_at _ _ (-1) _ (cut_data _ k) (by rw [open_list]; exact Plain.bce_take_none (Or.inr (by rw [HR.out]; omega))) (by have := cut_size (({ data := #[47, 42] } : ByteArray) ++ a0) k; rw [open_size] at this; omega)).mono ?_
  rintro e w' ⟨rfl, rfl⟩
  go_wp2_with fail
  refine (zz_at _ _ n _ (cut_data _ n) (by rw [open_list]; have := Plain.bce_take_self (l := 47 :: 42 :: a0.data.toList) (by rw [HR.out]; omega); rw [HR.out, Int.toNat_natCast] at this; exact this) (by have := cut_size (({ data := #[47, 42] } : ByteArray) ++ a0) n; rw [open_size] at this; omega)).mono ?_
  rintro e w' ⟨rfl, rfl⟩
  go_wp2_with fail
  refine (zz_at _ _ n _ (app_list _ a1) (by rw [open_list, Plain.bce_append _ (by rw [HR.out]; omega), HR.out]) (by rw [ByteArray.size_append, open_size]; omega)).mono ?_
  rintro e w' ⟨rfl, rfl⟩
  go_wp2_with fail
  go_ret
  exact ⟨rfl, Grown.refl _⟩

set_option maxHeartbeats 400000 in
/-- The law 'FnBlockCommentEndFirstCloseStableUnderCutAndExtension', at every input. -/
theorem first_any (a0 a1 : ByteArray) (c : Int) (w0 : a0.size ≤ maxLen) (w1 : a1.size ≤ maxLen) (w2 : (Lit.int .u32 c).wf = true) (w : World) :
    Calls Try.prog 3 #[.string a0, .string a1, .int .u32 c] w fun e w' => e = .returned (.bool true) ∧ Grown w w' := by
  obtain ⟨hc0, hc1⟩ : 0 ≤ c ∧ c ≤ 4294967295 := bounds_u32 w2
  clear w2
  by_cases h : a0.size + a1.size ≤ 1048576
  · by_cases h0 : a0.size ≤ 524288
    · by_cases h1 : a1.size ≤ 524288
      · by_cases hneg : Plain.bce (47 :: 42 :: a0.data.toList) < 0
        · exact first_neg a0 a1 c w hc0 hc1 h h0 h1 (Plain.bce_neg hneg)
        · obtain ⟨hn0, hn1⟩ := first_range rfl hneg
          exact first_pos a0 a1 c w (Plain.bce (47 :: 42 :: a0.data.toList)).toNat hc0 hc1 h h0 h1 (show _ = _ by omega) (by omega) (by omega)
      · go_enter Try.func3, Try.ntmps3
        go_wp2_with (go_at_call 9; refine (fit3_yes _ _ _ _ h).mono ?_; rintro e w' ⟨rfl, rfl⟩)
        go_ret
        exact ⟨rfl, Grown.refl _⟩
    · go_enter Try.func3, Try.ntmps3
      go_wp2_with (go_at_call 9; refine (fit3_yes _ _ _ _ h).mono ?_; rintro e w' ⟨rfl, rfl⟩)
      go_ret
      exact ⟨rfl, Grown.refl _⟩
  · go_enter Try.func3, Try.ntmps3
    go_wp2_with (go_at_call 9; refine (fit3_no _ _ _ _ w0 w1 h).mono ?_; rintro e w' ⟨rfl, rfl⟩)
    go_ret
    exact ⟨rfl, Grown.refl _⟩
end Go.Proofs.Qxb6600826a
