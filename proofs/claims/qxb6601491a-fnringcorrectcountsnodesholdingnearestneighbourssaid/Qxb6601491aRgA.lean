/-
  zzLessBytes, walked.
-/
import Derived.Test.Qxb6601491aNgE
namespace Go.Proofs.Qxb6601491a
open Go.RowKit
open Go.Extern.Stop (cell)

attribute [local go_sem ↓] ld33

/-- The order of addresses, byte by byte. -/
def lessB : List UInt8 → List UInt8 → Bool
  | a :: x, b :: y => if a = b then lessB x y else decide (a.toNat < b.toNat)
  | _, _ => false

theorem lessB_step (x y : List UInt8) (k : Nat) (hx : k < x.length) (hy : k < y.length) : lessB (x.drop k) (y.drop k) = if x[k] = y[k] then lessB (x.drop (k + 1)) (y.drop (k + 1)) else decide (x[k].toNat < y[k].toNat) := by
  rw [List.drop_eq_getElem_cons hx, List.drop_eq_getElem_cons hy]
  rfl

set_option maxHeartbeats 1000000 in
/-- 'zzLessBytes'. -/
theorem less_zz (x y : List UInt8) (hx : x.length = 20) (hy : y.length = 20) (w : World) :
    Calls Try.prog 52 #[addrV x, addrV y] w fun e w' => e = .returned (.bool (lessB x y)) ∧ Below w.heap.size w w' := by
  have hr0 := rangeAt_alloc_new w (x.map cell) 33
  have hb0 : Below w.heap.size w (w.alloc (.cells (x.map cell).toArray 33)) := (Below.refl _ _).alloc (Nat.le_refl _) _
  have hr1 := rangeAt_alloc_new (w.alloc (.cells (x.map cell).toArray 33)) (y.map cell) 33
  have hs1 : (w.alloc (.cells (x.map cell).toArray 33)).heap.size = w.heap.size + 1 := by simp
  have hb1 : Below w.heap.size w ((w.alloc (.cells (x.map cell).toArray 33)).alloc (.cells (y.map cell).toArray 33)) := hb0.alloc (by omega) _
  have hr0' := rangeAt_below (w' := (w.alloc (.cells (x.map cell).toArray 33)).alloc (.cells (y.map cell).toArray 33)) hr0 ((Below.refl _ _).alloc (Nat.le_refl _) _)
  rw [hs1] at hr1
  obtain ⟨B0, hB0⟩ : ∃ B0, B0 = w.heap.size := ⟨_, rfl⟩
  rw [← hB0] at hr0' hb1 hr1 ⊢
  unfold addrV
  go_enter Try.func52, Try.ntmps52
  go_wp2_with fail
  rw [← hB0]
  clear hs1 hr0 hb0
  clear hB0
  generalize (w.alloc (Obj.cells (x.map cell).toArray 33)).alloc (.cells (y.map cell).toArray 33) = w1 at hr0' hb1 hr1 ⊢
  have HX : Hid (w1.rangeAt B0 0 (x.map cell)) := hr0'
  have HY : Hid (w1.rangeAt (B0 + 1) 0 (y.map cell)) := hr1
  have HB : Hid (Below B0 w w1) := hb1
  clear hr0' hr1 hb1
  go_loopw [5] (fun vk wr => ∃ (k q : Nat), k ≤ 20 ∧ vk = .int .i64 k ∧ Hid (wr = w1.drewN q) ∧ Hid (lessB x y = lessB (x.drop k) (y.drop k))) (fun vk _ => 20 - (intOf vk).toNat)
  case atStart => exact ⟨0, 0, Nat.zero_le _, rfl, rfl, rfl⟩
  case round =>
    obtain ⟨k, q, hk, rfl, HW, HL⟩ := hrel
    by_cases hlt : k < 20
    · have c1 : wr.cell? ⟨B0, k, none⟩ = some (.int .u8 (x[k]'(by omega)).toNat) := by
        rw [HW.out]
        have := HX.out k (cell (x[k]'(by omega))) (by simp [hx, hlt])
        rw [Nat.zero_add] at this
        exact this
      have c2 : wr.cell? ⟨B0 + 1, k, none⟩ = some (.int .u8 (y[k]'(by omega)).toNat) := by
        rw [HW.out]
        have := HY.out k (cell (y[k]'(by omega))) (by simp [hy, hlt])
        rw [Nat.zero_add] at this
        exact this
      have HS : Hid _ := lessB_step x y k (by omega) (by omega)
      generalize x[k]'(by omega) = p at c1 HS
      generalize y[k]'(by omega) = r at c2 HS
      by_cases hq : p = r
      · subst hq
        have hne : (((p.toNat : Nat) : Int) != (p.toNat : Int)) = false := by simp
        go_wp2_with fail
        go_quiet (fail)
        go_wp2_with fail
        go_roundw
        case rel => exact ⟨k + 1, q + nq, by omega, by go_num, by show _ = _; rw [HW.out, World.drewN_drewN], by show _ = _; rw [HL.out, HS.out]; simp⟩
        case measure => simp [intOf]; omega
      · have hne : (((p.toNat : Nat) : Int) != (r.toNat : Int)) = true := by
          rw [bne_iff_ne]
          intro h
          exact hq (UInt8.toNat_inj.1 (by omega))
        go_wp2_with fail
        go_quiet (fail)
        go_wp2_with fail
        go_quiet (fail)
        go_wp2_with fail
        go_ret
        refine ⟨?_, ?_⟩
        · rw [HL.out, HS.out, if_neg hq]; simp
        · rw [HW.out, World.drewN_drewN, World.drewN_drewN]; exact HB.out.trans ⟨rfl, rfl, rfl, Nat.le_refl _, fun _ _ => rfl⟩
    · have hke : k = 20 := by omega
      subst hke
      go_wp2_with fail
      go_ret
      refine ⟨?_, ?_⟩
      · rw [HL.out, List.drop_eq_nil_of_le (by omega)]; rfl
      · rw [HW.out]; exact HB.out.trans ⟨rfl, rfl, rfl, Nat.le_refl _, fun _ _ => rfl⟩
end Go.Proofs.Qxb6601491a
