/-
  ringCorrect, walked.
-/
import Derived.Test.Qxb6601491aRgJ
import Derived.Test.Qxb6601491aRgK
import Derived.Test.Qxb6601491aNgS
import Derived.Test.Qxb6601491aNgG
import Derived.Test.Qxb6601491aNgU
namespace Go.Proofs.Qxb6601491a
open Go.RowKit
open Go.Extern.Stop (cell)

attribute [local go_sem ↓] ld70

/-- Does the node at place p list its s-th neighbours? -/
def okStep (L : Nat → List Int) (r : Nat → Nat) (n p s : Nat) : Bool := inB (L (r p)) (r ((p + s) % n)) && inB (L (r p)) (r ((p + n - s) % n))
def okUp (L : Nat → List Int) (r : Nat → Nat) (n p : Nat) : Nat → Bool
  | 0 => true
  | s + 1 => okUp L r n p s && okStep L r n p (s + 1)

/-- The row of the ring while it is filled. -/
structure RK (T n i : Nat) (gc : List Value) (w0 w : World) : Prop where
  below : Below T w0 w
  g : w.heap[T]? = some (.cells gc.toArray 70 (0, 0))
  row : ∃ cur, w.heap[T + 1]? = some (.cells cur 3 (0, 0)) ∧ cur.size = n ∧ ∀ j, j < i → cur[j]? = some (.int .i64 j)

theorem RK.put {T n i : Nat} {gc : List Value} {w0 w : World} (h : RK T n i gc w0 w) (hi : i < n) : RK T n (i + 1) gc w0 (w.setCell ⟨T + 1, i, none⟩ (.int .i64 i)) := by
  obtain ⟨cur, h1, h2, h3⟩ := h.row
  refine ⟨h.below.setCell (show T ≤ T + 1 by omega) _, (Below.heap_setCell _ _ _ _ (show T ≠ T + 1 by omega)).trans h.g, _, heap_setCell_same w (T + 1) i cur 3 _ h1, by simp [h2], fun j hj => ?_⟩
  rw [Array.getElem?_setIfInBounds]
  by_cases e : i = j
  · subst e; simp [h2, hi]
  · rw [if_neg e]; exact h3 j (by omega)

/-- The ring, sorted. -/
structure RS (T n : Nat) (gc : List Value) (r : Nat → Nat) (w0 w : World) : Prop where
  below : Below T w0 w
  size : T + 2 ≤ w.heap.size
  g : w.heap[T]? = some (.cells gc.toArray 70 (0, 0))
  row : ∀ j, j < n → w.cell? ⟨T + 1, j, none⟩ = some (.int .i64 (r j))

theorem RS.later {T n : Nat} {gc : List Value} {r : Nat → Nat} {w0 w w' : World} (h : RS T n gc r w0 w) (hb : Below w.heap.size w w') : RS T n gc r w0 w' := by
  have hs := h.size
  exact ⟨h.below.trans (hb.mono (by omega)), Nat.le_trans hs hb.size, (hb.block _ (by omega)).trans h.g, fun j hj => cell_below (h.row j hj) hb⟩

theorem Try.info3' : (Try.prog.info? 3).map (fun i => (i.size, i.bytes)) = some (1, 8) := by kernel_rfl
theorem Try.zero3' : ((Try.prog.info? 3).bind (·.zero)).isSome = true := by kernel_rfl

def RingEnd (n : Nat) (A : Nat → List UInt8) (L : Nat → List Int) (e : Ending) : Prop :=
  ∃ r : Nat → Nat, Ring n (256 ^ 20) (fun j => num (A j)) r ∧ ((List.range n).map r).Perm (List.range n) ∧ e = .returned (.int .i64 (cn (fun p => okUp L r n p (min 2 (n - 1))) n : Nat))

set_option maxHeartbeats 2000000 in
set_option maxRecDepth 100000 in
/-- 'ringCorrect'. -/
theorem ring_zz (m ab ao : Nat) (A : Nat → List UInt8) (b : Option Addr) (mL : Nat) (L : Nat → List Int) (vs : Nat → Value) (w : World) (hm : m < 4096) (hmL : m + 1 ≤ mL) (hmL' : mL ≤ 4096) (hA : AdrAt w (some ⟨ab, ao, none⟩) (m + 1) A) (hL : Lsts0 w b mL L vs)
    (hs : ∀ i, i < m + 1 → (L i).Pairwise (· ≤ ·)) (hl : ∀ i, i < mL → (L i).length ≤ 131072) (hd : ∀ i j, i < m + 1 → j < m + 1 → num (A i) = num (A j) → i = j) :
    Calls Try.prog 39 #[aggV (gcs (some ⟨ab, ao, none⟩) (m + 1) b mL)] w fun e w' => RingEnd (m + 1) A L e ∧ Below w.heap.size w w' := by
  obtain ⟨i0, z0, hi, hz0, hz1, hz2⟩ := info_row Try.info3' Try.zero3'
  obtain ⟨gc, hgc⟩ : ∃ gc, gc = gcs (some ⟨ab, ao, none⟩) (m + 1) b mL := ⟨_, rfl⟩
  have HGC : Hid (gc = gcs (some ⟨ab, ao, none⟩) (m + 1) b mL) := hgc
  have HA : Hid (AdrAt w (some ⟨ab, ao, none⟩) (m + 1) A) := hA
  have HL : Hid (Lsts0 w b mL L vs) := hL
  have HS : Hid (∀ i, i < m + 1 → (L i).Pairwise (· ≤ ·)) := hs
  have HLL : Hid (∀ i, i < mL → (L i).length ≤ 131072) := hl
  have HD : Hid (∀ i j, i < m + 1 → j < m + 1 → num (A i) = num (A j) → i = j) := hd
  have c0 : (w.alloc (.cells gc.toArray 70)).cell? ⟨w.heap.size, 0, none⟩ = some (.slice (some ⟨ab, ao, none⟩) (m + 1) (m + 1)) := rangeAt_alloc_new w gc 70 0 _ (by rw [hgc]; rfl)
  have hg0 := heap_alloc_new w (.cells gc.toArray 70)
  have hb0 : Below w.heap.size w (w.alloc (.cells gc.toArray 70)) := (Below.refl _ _).alloc (Nat.le_refl _) _
  have hs0 : (w.alloc (.cells gc.toArray 70)).heap.size = w.heap.size + 1 := by simp
  have HG0 : Hid ((w.alloc (.cells gc.toArray 70)).heap[w.heap.size]? = some (.cells gc.toArray 70 (0, 0))) := hg0
  have HB0 : Hid (Below w.heap.size w (w.alloc (.cells gc.toArray 70))) := hb0
  rw [← hgc]
  clear hA hL hs hl hd hg0 hb0 hgc
  unfold aggV
  go_enter Try.func39, Try.ntmps39
  go_wp2_with (at_make; refine wpList_make_full _ rfl _ _ 41 rfl (w.alloc (.cells gc.toArray 70)).heap.size 3 i0 z0 1 Try.underlying41 hi hz0 hz1 .i64 .i64 _ _ (m + 1) rfl rfl rfl rfl (by rw [hz2]; omega) (by unfold maxLen; omega) (Nat.le_refl _) ?_; intro w1 hown hgrow)
  rw [hs0] at hown
  have INV0 : Hid (RK w.heap.size (m + 1) 0 gc w w1) := by
    have hb1 : Below (w.alloc (.cells gc.toArray 70)).heap.size (w.alloc (.cells gc.toArray 70)) w1 := (Below.refl _ _).grown hgrow (Nat.le_refl _) (fun k hk => by cases hk)
    rw [hs0] at hb1
    refine ⟨HB0.out.trans (hb1.mono (by omega)), (hb1.block _ (by omega)).trans HG0.out, ?_⟩
    rcases hown.2 with ⟨h, _⟩ | ⟨g, cap, cur, h, _, hg, _, _, hs, _⟩
    · cases h
    · cases h
      exact ⟨cur, hg, by rw [hs]; omega, fun j hj => absurd hj (Nat.not_lt_zero _)⟩
  obtain ⟨T, hT⟩ : ∃ T, T = w.heap.size := ⟨_, rfl⟩
  have HT : Hid (T = w.heap.size) := hT
  rw [← hT] at INV0 ⊢
  clear hown hgrow hi hz0 hz1 hz2 c0 hs0 HG0 HB0 hT
  go_loopw [20] (fun vi wr => ∃ (i : Nat), i ≤ m + 1 ∧ vi = .int .i64 i ∧ Hid (RK T (m + 1) i gc w wr)) (fun vi _ => m + 1 - (intOf vi).toNat)
  case atStart => exact ⟨0, Nat.zero_le _, rfl, INV0⟩
  case round =>
    obtain ⟨i, hin, rfl, IK⟩ := hrel
    clear INV0
    by_cases hlt : i < m + 1
    · have d1 : ∃ u, wr.cell? ⟨T + 1, i, none⟩ = some u := by
        obtain ⟨cur, q1, q2, -⟩ := IK.out.row
        exact ⟨cur[i]'(by omega), by simp [World.cell?, q1, q2, hlt]⟩
      obtain ⟨u, d1⟩ := d1
      have d2 : wr.frozen? ⟨T + 1, i, none⟩ = false := by
        obtain ⟨cur, q1, -⟩ := IK.out.row
        simp [World.frozen?, q1]
      have I2 : Hid _ := IK.out.put hlt
      clear IK
      go_wp2_with fail
      go_roundw
      case rel => exact ⟨i + 1, by omega, by go_num, I2⟩
      case measure => simp [intOf]; omega
    · have hie : i = m + 1 := by omega
      subst hie
      obtain ⟨cur, q1, q2, q3⟩ := IK.out.row
      have hAr := HA.out.below (HT.out ▸ IK.out.below)
      have habT : ab < T := by
        have h := (HA.out.get 0 (by omega)).2
        have hl := (HA.out.get 0 (by omega)).1
        have := World.block_lt_of_cell? w _ (h 0 (cell ((A 0)[0]'(by omega))) (by simp [hl]))
        rw [HT.out]; exact this
      have cS := ring_sort m T ab ao (T + 1) cur A wr hm q1 q2 q3 (by omega) (by omega) (by simp only [World.cell?, IK.out.g]; rw [HGC.out]; rfl) (fun i hi => hAr.get i hi) HD.out
      have HIK : Hid (RK T (m + 1) (m + 1) gc w wr) := IK
      clear IK q1 q2 q3 hAr
      go_wp2_with fail
      refine cS.mono ?_
      rintro e w2 ⟨rfl, ⟨r, hR, hP, hrow⟩, hg2⟩
      have RS0 : Hid (RS T (m + 1) gc r w w2) := by
        have hlt1 : T + 1 < wr.heap.size := by
          obtain ⟨cur, q1, -⟩ := HIK.out.row
          exact (Array.getElem?_eq_some_iff.1 q1).1
        have hbg : Below (T + 1) wr w2 := (Below.refl _ _).grown hg2 (by omega) (fun k hk => by cases hk; exact Nat.le_refl _)
        exact ⟨HIK.out.below.trans (hbg.mono (by omega)), Nat.le_trans hlt1 hg2.size, (hbg.block T (by omega)).trans HIK.out.g, hrow⟩
      have HR : Hid (Ring (m + 1) (256 ^ 20) (fun j => num (A j)) r) := hR
      have HP : Hid (((List.range (m + 1)).map r).Perm (List.range (m + 1))) := hP
      clear cS hR hP hrow hg2 HIK habT
      go_wp2_with fail
      go_loopw [6, 33] (fun vc vp wr => ∃ (p c : Nat), p ≤ m + 1 ∧ c ≤ p ∧ vp = .int .i64 p ∧ vc = .int .i64 c ∧ Hid (c = cn (fun p => okUp L r (m + 1) p (min 2 m)) p) ∧ Hid (RS T (m + 1) gc r w wr)) (fun _ vp _ => m + 1 - (intOf vp).toNat)
      case atStart => exact ⟨0, 0, Nat.zero_le _, Nat.le_refl _, rfl, rfl, rfl, RS0⟩
      case round =>
        obtain ⟨p, c, hpn, hcp, rfl, rfl, HC, RK1⟩ := hrel
        clear RS0
        by_cases hlt : p < m + 1
        · have d1 := RK1.out.row p hlt
          have hrp := HR.out.lt p hlt
          have HC1 : Hid (cn (fun p => okUp L r (m + 1) p (min 2 m)) (p + 1) = cn (fun p => okUp L r (m + 1) p (min 2 m)) p + if okUp L r (m + 1) p (min 2 m) then 1 else 0) := rfl
          go_wp2_with fail
          clear d1
          have hdt : decide ((p : Int) < (m : Int) + 1) = true := by simp; omega
          rw [hdt]
          go_loopw [9, 10] (fun vo vs wk => ∃ (s : Nat), s ≤ min 2 m ∧ vs = .int .i64 ((s + 1 : Nat) : Int) ∧ vo = .bool (okUp L r (m + 1) p s) ∧ Hid (RS T (m + 1) gc r w wk)) (fun _ vs _ => 3 - (intOf vs).toNat)
          case atStart => exact ⟨0, Nat.zero_le _, rfl, rfl, RK1⟩
          case round =>
            clear RK1
            obtain ⟨s, hsm, rfl, rfl, RK2⟩ := hrel
            by_cases hst : s < min 2 m
            · have hP1 := Nat.mod_lt (p + (s + 1)) (show 0 < m + 1 by omega)
              have hP2 := Nat.mod_lt (p + (m + 1) - (s + 1)) (show 0 < m + 1 by omega)
              have e1 := RK2.out.row _ hP1
              have e2 := RK2.out.row _ hP2
              have hz : ¬ ((m : Int) + 1 = 0) := by omega
              have q1 : ((p : Int) + ((s : Int) + 1)) % ((m : Int) + 1) = (((p + (s + 1)) % (m + 1) : Nat) : Int) := by
                rw [Int.natCast_emod]; congr 1
              have q2 : ((p : Int) - ((s : Int) + 1) + ((m : Int) + 1)) % ((m : Int) + 1) = (((p + (m + 1) - (s + 1)) % (m + 1) : Nat) : Int) := by
                rw [Int.natCast_emod]; congr 1; omega
              have n1 : (0 : Int) ≤ (p : Int) + ((s : Int) + 1) := by omega
              have n2 : (0 : Int) ≤ (p : Int) - ((s : Int) + 1) + ((m : Int) + 1) := by omega
              have HST : Hid (okUp L r (m + 1) p (s + 1) = (okUp L r (m + 1) p s && (inB (L (r p)) (r ((p + (s + 1)) % (m + 1))) && inB (L (r p)) (r ((p + (m + 1) - (s + 1)) % (m + 1)))))) := rfl
              generalize (p + (s + 1)) % (m + 1) = P1 at hP1 e1 q1 HST
              generalize (p + (m + 1) - (s + 1)) % (m + 1) = P2 at hP2 e2 q2 HST
              go_wp2_with fail
              go_quiet (fail)
              have RK3 : Hid (RS T (m + 1) gc r w (wr.drewN nq)) := RK2.out.later ⟨rfl, rfl, rfl, Nat.le_refl _, fun _ _ => rfl⟩
              clear RK2 e1 e2 q1 q2 n1 n2 hz
              generalize wr.drewN nq = w3 at RK3 ⊢
              have LD : Hid (∀ w', RS T (m + 1) gc r w w' → (vld 70 ⟨T, 0, none⟩).run Try.prog w' = .ok (aggV gc) w') := fun w' h => ldV_of Try.underlying70 rfl (by rw [Try.size70, HGC.out]; rfl) (rangeAt_of h.g)
              have CL : Hid (∀ w' (j : Int), RS T (m + 1) gc r w w' → Calls Try.prog 51 #[aggV gc, .int .i64 (r p), .int .i64 j] w' fun e w'' => e = .returned (.bool (inB (L (r p)) j)) ∧ Below w'.heap.size w' w'') := fun w' j h => by
                rw [HGC.out]
                exact listsN_zz (some ⟨ab, ao, none⟩) (m + 1) b mL L vs (r p) j w' hmL' (by omega) (HL.out.below (HT.out ▸ h.below)) (HS.out _ hrp) (HLL.out _ (by omega))
              rcases (show okUp L r (m + 1) p s = true ∨ okUp L r (m + 1) p s = false by cases okUp L r (m + 1) p s <;> simp) with hok | hok
              · have l3 := LD.out w3 RK3.out
                have c3 := CL.out w3 (r P1) RK3.out
                rcases (show inB (L (r p)) (r P1) = true ∨ inB (L (r p)) (r P1) = false by cases inB (L (r p)) (r P1) <;> simp) with hi1 | hi1
                · have HO : Hid (okUp L r (m + 1) p (s + 1) = inB (L (r p)) (r P2)) := by show _ = _; rw [HST.out, hok, hi1]; rfl
                  rw [hok]
                  rw [hi1] at c3
                  clear hok hi1 HST
                  go_wp2_with fail
                  refine c3.mono ?_
                  rintro e w4 ⟨rfl, hb4⟩
                  have RK4 : Hid (RS T (m + 1) gc r w w4) := RK3.out.later hb4
                  clear l3 c3 hb4 RK3
                  have l4 := LD.out w4 RK4.out
                  have c4 := CL.out w4 (r P2) RK4.out
                  rw [← HO.out] at c4
                  clear LD CL
                  go_wp2_with fail
                  refine c4.mono ?_
                  rintro e w5 ⟨rfl, hb5⟩
                  have RK5 : Hid (RS T (m + 1) gc r w w5) := RK4.out.later hb5
                  clear l4 c4 hb5 RK4
                  go_wp2_with fail
                  refine ⟨?_, ?_⟩
                  · first
                      | exact ⟨s + 1, by omega, by go_num, rfl, RK5⟩
                      | (repeat apply Exists.intro
                         refine ⟨?_, rfl⟩
                         exact ⟨s + 1, by omega, by go_num, rfl, RK5⟩)
                  · simp [intOf]; omega
                · have HO : Hid (okUp L r (m + 1) p (s + 1) = false) := by show _ = _; rw [HST.out, hok, hi1]; rfl
                  rw [hok]
                  rw [hi1] at c3
                  clear hok hi1 HST LD CL
                  go_wp2_with fail
                  refine c3.mono ?_
                  rintro e w4 ⟨rfl, hb4⟩
                  have RK4 : Hid (RS T (m + 1) gc r w w4) := RK3.out.later hb4
                  clear l3 c3 hb4 RK3
                  go_wp2_with fail
                  refine ⟨?_, ?_⟩
                  · first
                      | exact ⟨s + 1, by omega, by go_num, by rw [HO.out], RK4⟩
                      | (repeat apply Exists.intro
                         refine ⟨?_, rfl⟩
                         exact ⟨s + 1, by omega, by go_num, by rw [HO.out], RK4⟩)
                  · simp [intOf]; omega
              · have HO : Hid (okUp L r (m + 1) p (s + 1) = false) := by show _ = _; rw [HST.out, hok]; rfl
                rw [hok]
                clear hok HST LD CL
                go_wp2_with fail
                refine ⟨?_, ?_⟩
                · first
                    | exact ⟨s + 1, by omega, by go_num, by rw [HO.out], RK3⟩
                    | (repeat apply Exists.intro
                       refine ⟨?_, rfl⟩
                       exact ⟨s + 1, by omega, by go_num, by rw [HO.out], RK3⟩)
                · simp [intOf]; omega
            · have hse : s = min 2 m := by omega
              rcases (show okUp L r (m + 1) p s = true ∨ okUp L r (m + 1) p s = false by cases okUp L r (m + 1) p s <;> simp) with hok | hok
              · have HC2 : Hid (c + 1 = cn (fun p => okUp L r (m + 1) p (min 2 m)) (p + 1)) := by
                  show _ = _
                  rw [HC1.out, ← HC.out, ← hse, hok]; rfl
                rw [hok]
                clear hok hse
                go_wp2_with fail
                go_roundw
                case rel => exact ⟨p + 1, c + 1, by omega, by omega, by go_num, by go_num, HC2, RK2⟩
                case measure => simp [intOf]; omega
              · have HC2 : Hid (c = cn (fun p => okUp L r (m + 1) p (min 2 m)) (p + 1)) := by
                  show _ = _
                  rw [HC1.out, ← HC.out, ← hse, hok]; rfl
                rw [hok]
                clear hok hse
                go_wp2_with fail
                go_roundw
                case rel => exact ⟨p + 1, c, by omega, by omega, by go_num, by go_num, HC2, RK2⟩
                case measure => simp [intOf]; omega
        · have hpe : p = m + 1 := by omega
          have HE : Hid (RingEnd (m + 1) A L (.returned (.int .i64 (c : Nat)))) := ⟨r, HR.out, HP.out, by rw [HC.out, hpe]; rfl⟩
          have HB2 : Hid (Below T w wr) := RK1.out.below
          go_wp2_with fail
          go_ret
          exact ⟨HE.out, by have h := HB2.out; rw [HT.out] at h; exact h⟩
end Go.Proofs.Qxb6601491a
