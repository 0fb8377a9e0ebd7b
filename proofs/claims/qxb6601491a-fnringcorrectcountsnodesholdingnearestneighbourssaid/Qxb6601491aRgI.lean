/-
  Address.Cmp, bytes.Compare, the closure of ringCorrect's sort, walked.
-/
import Derived.Test.Qxb6601491aRgE
import Derived.Test.Qxb6601491aNgM
import Derived.Lib.Bytealg
import Derived.Laws.Externs
namespace Go.Proofs.Qxb6601491a
open Go.RowKit Go.Sort
open Go.Extern.Stop (cell)

theorem run_ldBytes {P : Program} {w : World} : ∀ (l : List UInt8) (b off : Nat) (acc : ByteArray), w.rangeAt b off (l.map cell) → (Extern.Bytes.loadBytes ⟨b, off, none⟩ l.length acc).run P w = .ok ⟨acc.data ++ l.toArray⟩ w
  | [], b, off, acc, _ => by simp [Extern.Bytes.loadBytes]
  | x :: l, b, off, acc, h => by
    have h0 : w.cell? ⟨b, off, none⟩ = some (.int .u8 (x.toNat : Int)) := by have := h 0 (cell x) rfl; exact this
    have ih := run_ldBytes (P := P) (w := w) l b (off + 1) (acc.push x) (fun j v hv => by
      have := h (j + 1) v (by simpa using hv)
      rwa [show off + (j + 1) = off + 1 + j by omega] at this)
    have e : (⟨b, off, none⟩ : Addr).add 1 = ⟨b, off + 1, none⟩ := by rw [Addr.add_mid]
    have e2 : ((x.toNat : Int).toNat.toUInt8) = x := by simp
    simp only [List.length_cons, Extern.Bytes.loadBytes, Sem.run_bind, run_load, h0, Result.andThen, e, e2]
    rw [ih]
    congr 1
    apply ByteArray.ext
    simp [ByteArray.push]

theorem run_cmp {P : Program} {w : World} {b b' : Nat} (x y : List UInt8) (hx : x.length = 20) (hy : y.length = 20) (h : w.rangeAt b 0 (x.map cell)) (h' : w.rangeAt b' 0 (y.map cell)) :
    (Extern.BytealgCompare.compare #[.slice (some ⟨b, 0, none⟩) 20 20, .slice (some ⟨b', 0, none⟩) 20 20]).run P w = .ok (.int .i64 (Lib.compareBytes x y)) w := by
  have l1 := run_ldBytes (P := P) x b 0 .empty h
  have l2 := run_ldBytes (P := P) y b' 0 .empty h'
  rw [hx] at l1
  rw [hy] at l2
  change Sem.run P (do pure (goInt (Extern.BytealgCompare.cmp (← Extern.Bytes.bytesOf (.slice (some ⟨b, 0, none⟩) 20 20)) (← Extern.Bytes.bytesOf (.slice (some ⟨b', 0, none⟩) 20 20))))) w = _
  simp only [Extern.Bytes.bytesOf, Sem.run_bind, l1, l2, Sem.run_pure, Result.andThen]
  rw [Lib.cmp_eq]
  simp [goInt]

/-- Which comes first, as the numbers say. -/
def cmpN (x y : Nat) : Int := if x < y then -1 else if y < x then 1 else 0

theorem cmp_num : ∀ (x y : List UInt8), x.length = y.length → Lib.compareBytes x y = cmpN (num x) (num y)
  | [], [], _ => by simp [Lib.compareBytes, num, cmpN]
  | a :: x, b :: y, hl => by
    have hl' : x.length = y.length := by simpa using hl
    have ih := cmp_num x y hl'
    have n1 := num_lt x
    have n2 := num_lt y
    rw [hl'] at n1
    unfold Lib.compareBytes num
    rw [ih, hl']
    unfold cmpN
    have lt_iff : ∀ (p q : UInt8), p < q ↔ p.toNat < q.toNat := fun p q => UInt8.lt_iff_toNat_lt
    by_cases h1 : a < b
    · rw [if_pos h1]
      have := (lt_iff a b).1 h1
      have := Nat.mul_le_mul_right (256 ^ y.length) (show a.toNat + 1 ≤ b.toNat by omega)
      rw [Nat.add_mul] at this
      rw [if_pos (by omega)]
    · rw [if_neg h1]
      by_cases h2 : b < a
      · rw [if_pos h2]
        have := (lt_iff b a).1 h2
        have := Nat.mul_le_mul_right (256 ^ y.length) (show b.toNat + 1 ≤ a.toNat by omega)
        rw [Nat.add_mul] at this
        rw [if_neg (by omega), if_pos (by omega)]
      · rw [if_neg h2]
        have e1 : ¬ a.toNat < b.toNat := fun h => h1 ((lt_iff a b).2 h)
        have e2 : ¬ b.toNat < a.toNat := fun h => h2 ((lt_iff b a).2 h)
        have e : a.toNat = b.toNat := by omega
        rw [e]
        simp only [Nat.add_lt_add_iff_left]

set_option maxHeartbeats 1000000 in
set_option maxRecDepth 100000 in
/-- 'bytes.Compare' at two rows of twenty bytes. -/
theorem compare_zz {w : World} {b b' : Nat} (x y : List UInt8) (hx : x.length = 20) (hy : y.length = 20) (h : w.rangeAt b 0 (x.map cell)) (h' : w.rangeAt b' 0 (y.map cell)) :
    Calls Try.prog 57 #[.slice (some ⟨b, 0, none⟩) 20 20, .slice (some ⟨b', 0, none⟩) 20 20] w fun e w' => e = .returned (.int .i64 (cmpN (num x) (num y))) ∧ w' = w := by
  have hr := run_cmp (P := Try.prog) x y hx hy h h'
  rw [cmp_num x y (by rw [hx, hy])] at hr
  generalize cmpN (num x) (num y) = r at hr ⊢
  clear h h' hx hy
  go_enter Try.func57, Try.ntmps57
  go_wp2
  rw [run_callFunc_extern Try.func79 (by kernel_rfl) (by kernel_rfl) (by kernel_rfl) (e := Extern.BytealgCompare.compare) (by kernel_rfl), hr]
  simp only [Result.andThen]
  rw [Oper.upon_value]
  go_wp2
  go_ret
  exact ⟨rfl, rfl⟩

theorem grow_two (w : World) (o1 o2 : Obj) (q : Nat) : ((w.alloc o1).alloc o2).drewN q = grow (w.drewN q) #[o1, o2] := by
  rw [alloc_eq_grow, alloc_eq_grow, grow_grow]
  rfl

set_option maxHeartbeats 1000000 in
set_option maxRecDepth 100000 in
/-- 'Address.Cmp'. -/
theorem cmp_zz (x y : List UInt8) (hx : x.length = 20) (hy : y.length = 20) (w : World) :
    Calls Try.prog 50 #[addrV x, addrV y] w fun e w' => e = .returned (.int .i64 (cmpN (num x) (num y))) ∧ ∃ q os, w' = grow (w.drewN q) os := by
  have hr0 := rangeAt_alloc_new w (x.map cell) 34
  have hr1 := rangeAt_alloc_new (w.alloc (.cells (x.map cell).toArray 34)) (y.map cell) 34
  have hs1 : (w.alloc (.cells (x.map cell).toArray 34)).heap.size = w.heap.size + 1 := by simp
  have hr0' := rangeAt_below (w' := (w.alloc (.cells (x.map cell).toArray 34)).alloc (.cells (y.map cell).toArray 34)) hr0 ((Below.refl _ _).alloc (Nat.le_refl _) _)
  rw [hs1] at hr1
  have HG : Hid (∀ q, ((w.alloc (.cells (x.map cell).toArray 34)).alloc (.cells (y.map cell).toArray 34)).drewN q = grow (w.drewN q) #[.cells (x.map cell).toArray 34, .cells (y.map cell).toArray 34]) := fun q => grow_two _ _ _ q
  have c57 : ∀ q, Calls Try.prog 57 #[.slice (some ⟨w.heap.size, 0, none⟩) 20 20, .slice (some ⟨w.heap.size + 1, 0, none⟩) 20 20] (((w.alloc (.cells (x.map cell).toArray 34)).alloc (.cells (y.map cell).toArray 34)).drewN q) fun e w' => e = .returned (.int .i64 (cmpN (num x) (num y))) ∧ w' = (((w.alloc (.cells (x.map cell).toArray 34)).alloc (.cells (y.map cell).toArray 34)).drewN q) := fun q => compare_zz (w := ((w.alloc (.cells (x.map cell).toArray 34)).alloc (.cells (y.map cell).toArray 34)).drewN q) x y hx hy hr0' hr1
  clear hr0 hr1 hs1 hr0'
  generalize cmpN (num x) (num y) = r at c57 ⊢
  unfold addrV
  go_enter Try.func50, Try.ntmps50
  go_wp2_with fail
  go_quiet ((go_at_call 57; exact Calls.quiet_of_same (c57 _)))
  go_wp2_with fail
  go_ret
  exact ⟨rfl, nq, _, HG.out nq⟩
end Go.Proofs.Qxb6601491a
