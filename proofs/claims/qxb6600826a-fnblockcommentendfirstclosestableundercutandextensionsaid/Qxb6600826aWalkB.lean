import Derived.Test.Qxb6600826aProg
import Derived.Test.Qxb6600826aWalkA
import Derived.WalkKit
import Derived.WalkSpells
import Derived.WalkLawsBesides
namespace Go.Proofs.Qxb6600826a
open Go.RowKit

set_option maxHeartbeats 400000 in
theorem fit2_yes (a b : ByteArray) (w : World) (h : a.size + b.size ≤ 1048576) :
    Calls Try.prog 11 #[.string a, .string b] w fun e w' => e = .returned (.bool true) ∧ w' = w := by
  go_enter Try.func11, Try.ntmps11
  go_wp2
  go_ret
  exact ⟨rfl, rfl⟩

set_option maxHeartbeats 400000 in
theorem fit2_no (a b : ByteArray) (w : World) (ha : a.size ≤ maxLen) (hb : b.size ≤ maxLen) (h : ¬ a.size + b.size ≤ 1048576) :
    Calls Try.prog 11 #[.string a, .string b] w fun e w' => e = .returned (.bool false) ∧ w' = w := by
  unfold maxLen at ha hb
  by_cases h1 : 1048576 < a.size
  · go_enter Try.func11, Try.ntmps11
    go_wp2
    go_ret
    exact ⟨rfl, rfl⟩
  · by_cases h2 : 1048576 < b.size
    · go_enter Try.func11, Try.ntmps11
      go_wp2
      go_ret
      exact ⟨rfl, rfl⟩
    · go_enter Try.func11, Try.ntmps11
      go_wp2
      go_ret
      exact ⟨rfl, rfl⟩

theorem app_list (a b : ByteArray) : (a ++ b).data.toList = a.data.toList ++ b.data.toList := by simp

theorem open_list (a : ByteArray) : (({ data := #[47, 42] } : ByteArray) ++ a).data.toList = 47 :: 42 :: a.data.toList := by simp

/-- The first call, and each other, with its list and its answer named. -/
theorem zz_at (s : ByteArray) (l : List UInt8) (r : Int) (w : World) (hl : s.data.toList = l) (hr : Plain.bce l = r) (hs : s.size ≤ 4611686018427387904) :
    Calls Try.prog 10 #[.string s] w fun e w' => e = .returned (.int .i64 r) ∧ w' = w := by
  subst hl; subst hr; exact zz_any s w hs

theorem open_size (a : ByteArray) : (({ data := #[47, 42] } : ByteArray) ++ a).size = a.size + 2 := by
  rw [ByteArray.size_append]; show 2 + _ = _; omega

theorem cut_data (s : ByteArray) (n : Nat) : (s.extract 0 n).data.toList = s.data.toList.take n := by
  obtain ⟨⟨l⟩⟩ := s
  rw [ByteArray.extract_mk]
  simp

theorem cut_size (s : ByteArray) (n : Nat) : (s.extract 0 n).size ≤ s.size := by
  rw [size_list, size_list, cut_data, List.length_take]; omega

/-- What the answer over '"/*" + body' is, in the walk's own words. -/
theorem first_range {a : ByteArray} {r : Int} (h : Plain.bce (47 :: 42 :: a.data.toList) = r) (hn : ¬ r < 0) : 4 ≤ r ∧ r ≤ a.size + 2 := by
  subst h
  refine ⟨Plain.bce_four (by omega), ?_⟩
  rcases Plain.bce_range (47 :: 42 :: a.data.toList) with g | ⟨-, g⟩
  · omega
  · rw [size_list]; simp at g; simp; omega

theorem one_list {a0 a1 : ByteArray} {n : Nat} : (({ data := #[47, 42] } : ByteArray) ++ (({ data := #[47, 42] } : ByteArray) ++ a0).extract 0 n ++ ({ data := #[42, 47] } : ByteArray) ++ a1).data.toList
    = 47 :: 42 :: ((47 :: 42 :: a0.data.toList : List UInt8).take n ++ 42 :: 47 :: a1.data.toList) := by
  simp only [app_list, cut_data]
  simp

theorem two_list {a0 a1 : ByteArray} {n : Nat} : (({ data := #[47, 42] } : ByteArray) ++ (({ data := #[47, 42] } : ByteArray) ++ a0).extract 0 n ++ (({ data := #[47, 42] } : ByteArray) ++ a0).extract 0 n ++ ({ data := #[42, 47] } : ByteArray) ++ a1).data.toList
    = 47 :: 42 :: ((47 :: 42 :: a0.data.toList : List UInt8).take n ++ ((47 :: 42 :: a0.data.toList : List UInt8).take n ++ 42 :: 47 :: a1.data.toList)) := by
  simp only [app_list, cut_data]
  simp

theorem one_ans {a0 a1 : ByteArray} {n : Nat} (h : Plain.bce (47 :: 42 :: a0.data.toList) = n) :
    Plain.bce (47 :: 42 :: ((47 :: 42 :: a0.data.toList : List UInt8).take n ++ 42 :: 47 :: a1.data.toList)) = n + 4 := by
  have g := Plain.nest_one (body := a0.data.toList) (tail := a1.data.toList) (by omega)
  rw [h] at g; simpa using g

theorem two_ans {a0 a1 : ByteArray} {n : Nat} (h : Plain.bce (47 :: 42 :: a0.data.toList) = n) :
    Plain.bce (47 :: 42 :: ((47 :: 42 :: a0.data.toList : List UInt8).take n ++ ((47 :: 42 :: a0.data.toList : List UInt8).take n ++ 42 :: 47 :: a1.data.toList))) = 2 * n + 4 := by
  have g := Plain.nest_two (body := a0.data.toList) (tail := a1.data.toList) (by omega)
  rw [h] at g; simpa using g

theorem one_size {a0 a1 : ByteArray} {n : Nat} (h0 : a0.size ≤ 524288) (h1 : a1.size ≤ 524288) :
    (({ data := #[47, 42] } : ByteArray) ++ (({ data := #[47, 42] } : ByteArray) ++ a0).extract 0 n ++ ({ data := #[42, 47] } : ByteArray) ++ a1).size ≤ 4611686018427387904 := by
  have := cut_size (({ data := #[47, 42] } : ByteArray) ++ a0) n
  rw [open_size] at this
  have e : ({ data := #[42, 47] } : ByteArray).size = 2 := rfl
  rw [ByteArray.size_append, ByteArray.size_append, open_size, e]; omega

theorem two_size {a0 a1 : ByteArray} {n : Nat} (h0 : a0.size ≤ 524288) (h1 : a1.size ≤ 524288) :
    (({ data := #[47, 42] } : ByteArray) ++ (({ data := #[47, 42] } : ByteArray) ++ a0).extract 0 n ++ (({ data := #[47, 42] } : ByteArray) ++ a0).extract 0 n ++ ({ data := #[42, 47] } : ByteArray) ++ a1).size ≤ 4611686018427387904 := by
  have := cut_size (({ data := #[47, 42] } : ByteArray) ++ a0) n
  rw [open_size] at this
  have e : ({ data := #[42, 47] } : ByteArray).size = 2 := rfl
  rw [ByteArray.size_append, ByteArray.size_append, ByteArray.size_append, open_size, e]; omega

set_option maxHeartbeats 400000 in
theorem nests_in (a0 a1 : ByteArray) (w : World) (h : a0.size + a1.size ≤ 1048576) (h0 : a0.size ≤ 524288) (h1 : a1.size ≤ 524288) :
    Calls Try.prog 4 #[.string a0, .string a1] w fun e w' => e = .returned (.bool true) ∧ Grown w w' := by
  obtain ⟨r, hr⟩ : ∃ r, Plain.bce (47 :: 42 :: a0.data.toList) = r := ⟨_, rfl⟩
  have HR : Hid (Plain.bce (47 :: 42 :: a0.data.toList) = r) := hr
  clear hr
  by_cases hneg : r < 0
  · go_enter Try.func4, Try.ntmps4
    go_wp2_with (first | (go_at_call 11; refine (fit2_yes _ _ _ h).mono ?_; rintro e w' ⟨rfl, rfl⟩) | (go_at_call 10; refine (zz_at _ _ r _ (open_list a0) HR.out (by rw [open_size]; omega)).mono ?_; rintro e w' ⟨rfl, rfl⟩))
    go_ret
    exact ⟨rfl, Grown.refl _⟩
  · obtain ⟨hn0, hn1⟩ := first_range HR.out hneg
    obtain ⟨n, hn⟩ : ∃ n : Nat, r = n := ⟨r.toNat, by omega⟩
    subst hn
    go_enter Try.func4, Try.ntmps4
    go_wp2_with (go_at_call 11; refine (fit2_yes _ _ _ h).mono ?_; rintro e w' ⟨rfl, rfl⟩)
    refine (zz_at _ _ n _ (open_list a0) HR.out (by rw [open_size]; omega)).mono ?_
    rintro e w' ⟨rfl, rfl⟩
    go_wp2_with fail
    refine (zz_at _ _ (n + 4) _ one_list (one_ans HR.out) (one_size h0 h1)).mono ?_
    rintro e w' ⟨rfl, rfl⟩
    go_wp2_with fail
    refine (zz_at _ _ (2 * n + 4) _ two_list (two_ans HR.out) (two_size h0 h1)).mono ?_
    rintro e w' ⟨rfl, rfl⟩
    go_wp2_with fail
    go_ret
    exact ⟨rfl, Grown.refl _⟩

set_option maxHeartbeats 400000 in
/-- The law 'FnBlockCommentEndNestsAndChains', at every two texts. -/
theorem nests_any (a0 a1 : ByteArray) (w0 : a0.size ≤ maxLen) (w1 : a1.size ≤ maxLen) (w : World) :
    Calls Try.prog 4 #[.string a0, .string a1] w fun e w' => e = .returned (.bool true) ∧ Grown w w' := by
  by_cases h : a0.size + a1.size ≤ 1048576
  · by_cases h0 : a0.size ≤ 524288
    · by_cases h1 : a1.size ≤ 524288
      · exact nests_in a0 a1 w h h0 h1
      · go_enter Try.func4, Try.ntmps4
        go_wp2_with (go_at_call 11; refine (fit2_yes _ _ _ h).mono ?_; rintro e w' ⟨rfl, rfl⟩)
        go_ret
        exact ⟨rfl, Grown.refl _⟩
    · go_enter Try.func4, Try.ntmps4
      go_wp2_with (go_at_call 11; refine (fit2_yes _ _ _ h).mono ?_; rintro e w' ⟨rfl, rfl⟩)
      go_ret
      exact ⟨rfl, Grown.refl _⟩
  · go_enter Try.func4, Try.ntmps4
    go_wp2_with (go_at_call 11; refine (fit2_no _ _ _ w0 w1 h).mono ?_; rintro e w' ⟨rfl, rfl⟩)
    go_ret
    exact ⟨rfl, Grown.refl _⟩
end Go.Proofs.Qxb6600826a
