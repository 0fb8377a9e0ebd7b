/-
  zzRingDist, walked: the distance clockwise, as a number.
-/
import Derived.Test.Qxb6601491aRgA
import Derived.Test.Qxb6601491aNgF
import Derived.Test.Qxb6601491aRes
namespace Go.Proofs.Qxb6601491a
open Go.RowKit
open Go.Extern.Stop (cell)

/-- An address as a number, the first byte the highest. -/
def num : List UInt8 → Nat
  | [] => 0
  | a :: x => a.toNat * 256 ^ x.length + num x

theorem num_lt : ∀ x : List UInt8, num x < 256 ^ x.length
  | [] => by simp [num]
  | a :: x => by
    have h1 := num_lt x
    have h2 : a.toNat ≤ 255 := by have := a.toNat_lt; omega
    have h3 := Nat.mul_le_mul_right (256 ^ x.length) h2
    unfold num
    rw [List.length_cons, Nat.pow_succ]
    omega

theorem num_inj : ∀ (x y : List UInt8), x.length = y.length → num x = num y → x = y
  | [], [], _, _ => rfl
  | a :: x, b :: y, hl, h => by
    have hl' : x.length = y.length := by simpa using hl
    have h1 := num_lt x
    have h2 := num_lt y
    unfold num at h
    rw [hl'] at h h1
    have hP : 0 < 256 ^ y.length := Nat.pow_pos (by omega)
    have hab : a.toNat = b.toNat := by
      rcases Nat.lt_trichotomy a.toNat b.toNat with hh | hh | hh
      · have := Nat.mul_le_mul_right (256 ^ y.length) (show a.toNat + 1 ≤ b.toNat by omega)
        rw [Nat.add_mul] at this; omega
      · exact hh
      · have := Nat.mul_le_mul_right (256 ^ y.length) (show b.toNat + 1 ≤ a.toNat by omega)
        rw [Nat.add_mul] at this; omega
    rw [hab] at h
    rw [UInt8.toNat_inj.1 hab, num_inj x y hl' (by omega)]

theorem lessB_num : ∀ (x y : List UInt8), x.length = y.length → lessB x y = decide (num x < num y)
  | [], [], _ => by simp [lessB, num]
  | a :: x, b :: y, hl => by
    have hl' : x.length = y.length := by simpa using hl
    have h1 := num_lt x
    have h2 := num_lt y
    unfold lessB num
    rw [lessB_num x y hl', hl']
    rw [hl'] at h1
    by_cases e : a = b
    · subst e; simp
    · rw [if_neg e]
      have hne : a.toNat ≠ b.toNat := fun h => e (UInt8.toNat_inj.1 h)
      congr 1
      apply propext
      constructor
      · intro hh
        have := Nat.mul_le_mul_right (256 ^ y.length) (show a.toNat + 1 ≤ b.toNat by omega)
        rw [Nat.add_mul] at this; omega
      · intro hh
        apply Classical.byContradiction
        intro hc
        have := Nat.mul_le_mul_right (256 ^ y.length) (show b.toNat + 1 ≤ a.toNat by omega)
        rw [Nat.add_mul] at this; omega

/-- One byte more of the subtraction. -/
theorem num_step (a b d : UInt8) (xs ys ds : List UInt8) (c c' : Nat) (hx : xs.length = ds.length) (hy : ys.length = ds.length) (h : num ds + num xs = num ys + c * 256 ^ ds.length) (hd : d.toNat + a.toNat + c = b.toNat + 256 * c') :
    num (d :: ds) + num (a :: xs) = num (b :: ys) + c' * 256 ^ (ds.length + 1) := by
  unfold num
  rw [hx, hy, Nat.pow_succ]
  generalize 256 ^ ds.length = P at h
  have h2 := congrArg (· * P) hd
  simp only [Nat.add_mul] at h2
  rw [show c' * (P * 256) = 256 * c' * P by rw [Nat.mul_comm P 256, ← Nat.mul_assoc, Nat.mul_comm c' 256]]
  omega

/-- WHAT STANDS DURING THE LOOP. -/
structure RD (B0 : Nat) (x y ds : List UInt8) (k : Nat) (w0 w : World) : Prop where
  below : Below B0 w0 w
  x : w.rangeAt B0 0 (x.map cell)
  y : w.rangeAt (B0 + 1) 0 (y.map cell)
  r : ∃ cur, w.heap[B0 + 2]? = some (.cells cur 33 (0, 0)) ∧ cur.size = 20
  d : ∃ cur, w.heap[B0 + 3]? = some (.cells cur 33 (0, 0)) ∧ cur.size = 20 ∧ ∀ i (hi : i < ds.length), cur[k + i]? = some (cell ds[i])

theorem st33 (p : Addr) (v : Value) : storeVar 33 p v = vst 33 p v := rfl

theorem RD.drewN {B0 : Nat} {x y ds : List UInt8} {k : Nat} {w0 w : World} (h : RD B0 x y ds k w0 w) (q : Nat) : RD B0 x y ds k w0 (w.drewN q) :=
  ⟨h.below.trans ⟨rfl, rfl, rfl, Nat.le_refl _, fun _ _ => rfl⟩, h.x, h.y, h.r, h.d⟩

theorem RD.put {B0 : Nat} {x y ds : List UInt8} {k : Nat} {w0 w : World} (h : RD B0 x y ds (k + 1) w0 w) (hk : k < 20) (b : UInt8) : RD B0 x y (b :: ds) k w0 (w.setCell ⟨B0 + 3, k, none⟩ (cell b)) := by
  obtain ⟨cur, h1, h2, h3⟩ := h.d
  obtain ⟨cr, r1, r2⟩ := h.r
  have keep : ∀ b', b' ≠ B0 + 3 → (w.setCell ⟨B0 + 3, k, none⟩ (cell b)).heap[b']? = w.heap[b']? := fun b' hb => Below.heap_setCell _ _ _ _ hb
  refine ⟨h.below.setCell (show B0 ≤ B0 + 3 by omega) _, fun j v hv => ?_, fun j v hv => ?_, ⟨cr, (keep _ (by omega)).trans r1, r2⟩, ⟨_, heap_setCell_same w (B0 + 3) k cur 33 (cell b) h1, by simp [h2], fun i hi => ?_⟩⟩
  · exact (World.cell?_of_block (a := ⟨B0, 0 + j, none⟩) (keep B0 (by omega))).trans (h.x j v hv)
  · exact (World.cell?_of_block (a := ⟨B0 + 1, 0 + j, none⟩) (keep (B0 + 1) (by omega))).trans (h.y j v hv)
  · rw [Array.getElem?_setIfInBounds]
    cases i with
    | zero => simp [h2, hk]
    | succ i =>
      rw [if_neg (by omega)]
      have := h3 i (by simpa using hi)
      rw [show k + (i + 1) = k + 1 + i by omega, this]
      simp

/-- The result's cells. -/
theorem RD.out {B0 : Nat} {x y ds : List UInt8} {w0 w : World} (h : RD B0 x y ds 0 w0 w) (hl : ds.length = 20) :
    (vld 33 ⟨B0 + 3, 0, none⟩).run Try.prog w = .ok (addrV ds) w ∧ ∃ w', (vst 33 ⟨B0 + 2, 0, none⟩ (addrV ds)).run Try.prog w = .ok () w' ∧ (vld 33 ⟨B0 + 2, 0, none⟩).run Try.prog w' = .ok (addrV ds) w' ∧ Below B0 w0 w' := by
  obtain ⟨cur, h1, h2, h3⟩ := h.d
  obtain ⟨cr, r1, r2⟩ := h.r
  have ht : w.there (B0 + 2) 0 (ds.map cell).length := fun j hj => by
    have hj' : j < 20 := by simpa [hl] using hj
    constructor
    · simp only [World.cell?, r1]; simp [r2, hj']
    · simp only [World.frozen?, r1]; simp
  refine ⟨load33 hl fun j v hv => ?_, _, stV_of (by rw [Try.size33]; simp [hl]) ht (addr_one ds), load33 hl (World.rangeAt_setCells_same _ _ _ _ ht), Below.setCells (by omega) _ _ _ h.below⟩
  have hj : j < ds.length := by simpa using (List.getElem?_eq_some_iff.1 hv).1
  have := h3 j hj
  simp only [World.cell?, h1]
  simp [hj] at hv
  simpa [← hv] using this

/-- Twenty bytes of nothing. -/
abbrev z20 : Array Value := #[Value.int .u8 0, Value.int .u8 0, Value.int .u8 0, Value.int .u8 0, Value.int .u8 0, Value.int .u8 0, Value.int .u8 0, Value.int .u8 0, Value.int .u8 0, Value.int .u8 0, Value.int .u8 0, Value.int .u8 0, Value.int .u8 0, Value.int .u8 0, Value.int .u8 0, Value.int .u8 0, Value.int .u8 0, Value.int .u8 0, Value.int .u8 0, Value.int .u8 0]

theorem RD.start (x y : List UInt8) (w : World) (z : Array Value) (hz : z.size = 20) :
    RD w.heap.size x y [] 20 w ((((w.alloc (.cells (x.map cell).toArray 33)).alloc (.cells (y.map cell).toArray 33)).alloc (.cells z 33)).alloc (.cells z 33)) := by
  have b1 : Below w.heap.size w (w.alloc (.cells (x.map cell).toArray 33)) := (Below.refl _ _).alloc (Nat.le_refl _) _
  have r1 := rangeAt_alloc_new w (x.map cell) 33
  have s1 : (w.alloc (.cells (x.map cell).toArray 33)).heap.size = w.heap.size + 1 := by simp
  generalize w.alloc (.cells (x.map cell).toArray 33) = w1 at b1 r1 s1 ⊢
  have b2 : Below w1.heap.size w1 (w1.alloc (.cells (y.map cell).toArray 33)) := (Below.refl _ _).alloc (Nat.le_refl _) _
  have r2 := rangeAt_alloc_new w1 (y.map cell) 33
  have s2 : (w1.alloc (.cells (y.map cell).toArray 33)).heap.size = w1.heap.size + 1 := by simp
  generalize w1.alloc (.cells (y.map cell).toArray 33) = w2 at b2 r2 s2 ⊢
  have b3 : Below w2.heap.size w2 (w2.alloc (.cells z 33)) := (Below.refl _ _).alloc (Nat.le_refl _) _
  have r3 := heap_alloc_new w2 (.cells z 33)
  have s3 : (w2.alloc (.cells z 33)).heap.size = w2.heap.size + 1 := by simp
  generalize w2.alloc (.cells z 33) = w3 at b3 r3 s3 ⊢
  have b4 : Below w3.heap.size w3 (w3.alloc (.cells z 33)) := (Below.refl _ _).alloc (Nat.le_refl _) _
  have r4 := heap_alloc_new w3 (.cells z 33)
  generalize w3.alloc (.cells z 33) = w4 at b4 r4 ⊢
  rw [s1] at b2 r2
  rw [s2, s1] at b3 r3
  rw [s3, s2, s1] at b4 r4
  refine ⟨b1.trans ((b2.mono (by omega)).trans ((b3.mono (by omega)).trans (b4.mono (by omega)))), ?_, ?_, ⟨z, (b4.block _ (by omega)).trans r3, hz⟩, z, r4, hz, fun i hi => by simp at hi⟩
  · have := rangeAt_below (w' := w2) r1 (by rw [s1]; exact b2)
    have := rangeAt_below (w' := w3) this (by rw [s2, s1]; exact b3)
    exact rangeAt_below (w' := w4) this (by rw [s3, s2, s1]; exact b4)
  · have := rangeAt_below (w' := w3) r2 (by rw [s2, s1]; exact b3)
    exact rangeAt_below (w' := w4) this (by rw [s3, s2, s1]; exact b4)

attribute [local go_sem ↓] ld33 st33

set_option maxHeartbeats 1000000 in
/-- 'zzRingDist'. -/
theorem dist_zz (x y : List UInt8) (hx : x.length = 20) (hy : y.length = 20) (w : World) :
    Calls Try.prog 41 #[addrV x, addrV y] w fun e w' => (∃ (d : List UInt8) (c : Nat), e = .returned (addrV d) ∧ d.length = 20 ∧ num d + num x = num y + c * 256 ^ 20) ∧ Below w.heap.size w w' := by
  have I0 := RD.start x y w z20 rfl
  obtain ⟨B0, hB0⟩ : ∃ B0, B0 = w.heap.size := ⟨_, rfl⟩
  rw [← hB0] at I0 ⊢
  unfold addrV
  go_enter Try.func41, Try.ntmps41
  go_wp2_with fail
  rw [← hB0]
  clear hB0
  generalize ((((w.alloc (.cells (x.map cell).toArray 33)).alloc (.cells (y.map cell).toArray 33)).alloc (.cells z20 33)).alloc (.cells z20 33)) = w1 at I0 ⊢
  have I1 : Hid (RD B0 x y [] 20 w w1) := I0
  clear I0
  rw [show B0 + 1 + 1 + 1 = B0 + 3 by omega, show B0 + 1 + 1 = B0 + 2 by omega]
  go_loopw [6, 7] (fun vb vj wr => ∃ (j c : Nat) (ds : List UInt8), j ≤ 20 ∧ c ≤ 1 ∧ vb = .int .i64 c ∧ vj = .int .i64 ((j : Int) - 1) ∧ Hid (RD B0 x y ds j w wr) ∧ Hid (ds.length + j = 20 ∧ num ds + num (x.drop j) = num (y.drop j) + c * 256 ^ ds.length)) (fun _ vj _ => (intOf vj + 1).toNat)
  case atStart => exact ⟨20, 0, [], Nat.le_refl _, Nat.zero_le _, rfl, rfl, I1, by simp, by rw [List.drop_eq_nil_of_le (by omega), List.drop_eq_nil_of_le (by omega)]; rfl⟩
  case round =>
    obtain ⟨j, c, ds, hj, hc, rfl, rfl, IK, HL⟩ := hrel
    clear I1
    cases j with
    | zero =>
      obtain ⟨hl, hnum⟩ := HL.out
      have hl20 : ds.length = 20 := by omega
      obtain ⟨l1, w2, s1, l2, hb2⟩ := IK.out.out hl20
      have HB2 : Hid (Below B0 w w2) := hb2
      rw [hl20] at hnum
      have HN : Hid (num ds + num x = num y + c * 256 ^ 20) := hnum
      clear IK HL hl hb2 hnum
      go_wp2_with fail
      refine bodyPost_ret (results_vld rfl rfl l2) rfl ?_
      exact ⟨⟨ds, c, rfl, hl20, HN.out⟩, HB2.out⟩
    | succ k =>
      rw [show ((k + 1 : Nat) : Int) - 1 = (k : Int) by omega]
      have hk : k < 20 := by omega
      have c1 : wr.cell? ⟨B0, k, none⟩ = some (.int .u8 (x[k]'(by omega)).toNat) := by
        have := IK.out.x k (cell (x[k]'(by omega))) (by simp [hx, hk])
        rw [Nat.zero_add] at this
        exact this
      have c2 : wr.cell? ⟨B0 + 1, k, none⟩ = some (.int .u8 (y[k]'(by omega)).toNat) := by
        have := IK.out.y k (cell (y[k]'(by omega))) (by simp [hy, hk])
        rw [Nat.zero_add] at this
        exact this
      have HX : Hid (num (x.drop k) = num (x[k]'(by omega) :: x.drop (k + 1))) := by show _ = _; rw [List.drop_eq_getElem_cons (by omega)]
      have HY : Hid (num (y.drop k) = num (y[k]'(by omega) :: y.drop (k + 1))) := by show _ = _; rw [List.drop_eq_getElem_cons (by omega)]
      generalize x[k]'(by omega) = p at c1 HX
      generalize y[k]'(by omega) = r at c2 HY
      have hp := p.toNat_lt
      have hr := r.toNat_lt
      have d1 : ∃ u, wr.cell? ⟨B0 + 3, k, none⟩ = some u := by
        obtain ⟨cur, q1, q2, -⟩ := IK.out.d
        exact ⟨cur[k]'(by omega), by simp [World.cell?, q1, q2, hk]⟩
      obtain ⟨u, d1⟩ := d1
      have d2 : wr.frozen? ⟨B0 + 3, k, none⟩ = false := by
        obtain ⟨cur, q1, q2, -⟩ := IK.out.d
        simp [World.frozen?, q1]
      by_cases hneg : (r.toNat : Int) - p.toNat - c < 0
      · obtain ⟨b, hb⟩ : ∃ b : UInt8, (r.toNat : Int) - p.toNat - c + 256 = (b.toNat : Int) := ⟨UInt8.ofNat ((r.toNat : Int) - p.toNat - c + 256).toNat, by simp; omega⟩
        go_wp2_with fail
        go_quiet (fail)
        go_wp2_with fail
        go_roundw
        case rel =>
          refine ⟨k, 1, b :: ds, by omega, Nat.le_refl _, rfl, rfl, (IK.out.drewN nq).put hk b, ?_⟩
          obtain ⟨hl, hnum⟩ := HL.out
          refine ⟨by simp; omega, ?_⟩
          rw [HX.out, HY.out]
          exact num_step p r b _ _ ds c 1 (by simp; omega) (by simp; omega) hnum (by omega)
        case measure => simp [intOf]
      · obtain ⟨b, hb⟩ : ∃ b : UInt8, (r.toNat : Int) - p.toNat - c = (b.toNat : Int) := ⟨UInt8.ofNat ((r.toNat : Int) - p.toNat - c).toNat, by simp; omega⟩
        go_wp2_with fail
        go_quiet (fail)
        go_wp2_with fail
        go_roundw
        case rel =>
          refine ⟨k, 0, b :: ds, by omega, Nat.zero_le _, rfl, rfl, (IK.out.drewN nq).put hk b, ?_⟩
          obtain ⟨hl, hnum⟩ := HL.out
          refine ⟨by simp; omega, ?_⟩
          rw [HX.out, HY.out]
          exact num_step p r b _ _ ds c 0 (by simp; omega) (by simp; omega) hnum (by omega)
        case measure => simp [intOf]
end Go.Proofs.Qxb6601491a
