/-
  zzHoldsNearest, walked.
-/
import Derived.Test.Qxb6601491aRgE
import Derived.Test.Qxb6601491aNgC
import Derived.Test.Qxb6601491aRgO
namespace Go.Proofs.Qxb6601491a
open Go.RowKit
open Go.Extern.Stop (cell)

/-- A list of indices of the call's own. -/
def Lst0 (w : World) (v : Value) (zs : List Int) : Prop :=
  ∃ a c, v = .slice a zs.length c ∧ zs.length ≤ maxLen ∧ (zs = [] ∨ ∃ blk, a = some ⟨blk, 0, none⟩ ∧ ∀ k (hk : k < zs.length), w.cell? ⟨blk, k, none⟩ = some (.int .i64 zs[k]))

theorem Lst0.below {w w' : World} {v : Value} {zs : List Int} (h : Lst0 w v zs) (hb : Below w.heap.size w w') : Lst0 w' v zs := by
  obtain ⟨a, c, h1, h2, h4⟩ := h
  refine ⟨a, c, h1, h2, ?_⟩
  rcases h4 with h4 | ⟨blk, ha, h4⟩
  · exact .inl h4
  · exact .inr ⟨blk, ha, fun k hk => cell_below (h4 k hk) hb⟩

/-- 'zzInList', at such a list. -/
theorem in_any (v : Value) (zs : List Int) (x : Int) (w : World) (h : Lst0 w v zs) : Calls Try.prog 17 #[v, .int .i64 x] w fun e w' => e = .returned (.bool (inB zs x)) ∧ w' = w := by
  obtain ⟨a, c, rfl, h2, h4⟩ := h
  rcases h4 with rfl | ⟨blk, rfl, h4⟩
  · go_enter Try.func17, Try.ntmps17
    go_wp2
    refine wp_loop_rounds 1 ?_
    rw [rounds_succ]
    go_wp2
    go_ret
    exact ⟨rfl, rfl⟩
  · by_cases hz : zs = []
    · subst hz
      go_enter Try.func17, Try.ntmps17
      go_wp2
      refine wp_loop_rounds 1 ?_
      rw [rounds_succ]
      go_wp2
      go_ret
      exact ⟨rfl, rfl⟩
    · exact in_zz _ zs x w (.inr ⟨hz, h2, blk, c, rfl, h4⟩)

/-- WHAT STANDS DURING zzHoldsNearest: the four variables' cells. -/
structure HM (T : Nat) (b c bd cd : List Value) (w0 w : World) : Prop where
  below : Below T w0 w
  size : T + 4 ≤ w.heap.size
  cw : w.heap[T]? = some (.cells b.toArray 74 (0, 0))
  ccw : w.heap[T + 1]? = some (.cells c.toArray 74 (0, 0))
  cwd : w.heap[T + 2]? = some (.cells bd.toArray 75 (0, 0))
  ccwd : w.heap[T + 3]? = some (.cells cd.toArray 75 (0, 0))

section
variable {T : Nat} {b c bd cd : List Value} {w0 w w' : World}

theorem HM.later (h : HM T b c bd cd w0 w) (hb : Below w.heap.size w w') : HM T b c bd cd w0 w' := by
  have hs := h.size
  exact ⟨h.below.trans (hb.mono (by omega)), Nat.le_trans hs hb.size, (hb.block _ (by omega)).trans h.cw, (hb.block _ (by omega)).trans h.ccw, (hb.block _ (by omega)).trans h.cwd, (hb.block _ (by omega)).trans h.ccwd⟩

theorem heap_whole {g : Nat} {t : TypeId} {mid vs : List Value} {w : World} (hl : mid.length = vs.length) (h : w.heap[g]? = some (.cells mid.toArray t (0, 0))) : (w.setCells g 0 vs).heap[g]? = some (.cells vs.toArray t (0, 0)) := by
  have := heap_setCells_part (b := g) (t := t) vs mid [] [] w hl (by simpa using h)
  simpa using this

theorem HM.put0 (h : HM T b c bd cd w0 w) {b' : List Value} (hl : b.length = b'.length) : HM T b' c bd cd w0 (w.setCells T 0 b') :=
  ⟨Below.setCells (Nat.le_refl _) _ _ _ h.below, by rw [size_setCells]; exact h.size, heap_whole hl h.cw, (heap_setCells_ne (by omega) _ _ _).trans h.ccw, (heap_setCells_ne (by omega) _ _ _).trans h.cwd, (heap_setCells_ne (by omega) _ _ _).trans h.ccwd⟩
theorem HM.put1 (h : HM T b c bd cd w0 w) {c' : List Value} (hl : c.length = c'.length) : HM T b c' bd cd w0 (w.setCells (T + 1) 0 c') :=
  ⟨Below.setCells (by omega) _ _ _ h.below, by rw [size_setCells]; exact h.size, (heap_setCells_ne (by omega) _ _ _).trans h.cw, heap_whole hl h.ccw, (heap_setCells_ne (by omega) _ _ _).trans h.cwd, (heap_setCells_ne (by omega) _ _ _).trans h.ccwd⟩
theorem HM.put2 (h : HM T b c bd cd w0 w) {d' : List Value} (hl : bd.length = d'.length) : HM T b c d' cd w0 (w.setCells (T + 2) 0 d') :=
  ⟨Below.setCells (by omega) _ _ _ h.below, by rw [size_setCells]; exact h.size, (heap_setCells_ne (by omega) _ _ _).trans h.cw, (heap_setCells_ne (by omega) _ _ _).trans h.ccw, heap_whole hl h.cwd, (heap_setCells_ne (by omega) _ _ _).trans h.ccwd⟩
theorem HM.put3 (h : HM T b c bd cd w0 w) {d' : List Value} (hl : cd.length = d'.length) : HM T b c bd d' w0 (w.setCells (T + 3) 0 d') :=
  ⟨Below.setCells (by omega) _ _ _ h.below, by rw [size_setCells]; exact h.size, (heap_setCells_ne (by omega) _ _ _).trans h.cw, (heap_setCells_ne (by omega) _ _ _).trans h.ccw, (heap_setCells_ne (by omega) _ _ _).trans h.cwd, heap_whole hl h.ccwd⟩

theorem HM.set0 (h : HM T b c bd cd w0 w) (k : Nat) (v : Value) : HM T (b.set k v) c bd cd w0 (w.setCell ⟨T, k, none⟩ v) :=
  ⟨h.below.setCell (Nat.le_refl _) _, by simpa [World.setCell] using h.size, by rw [heap_setCell_same w T k _ 74 v h.cw, List.setIfInBounds_toArray], (Below.heap_setCell _ _ _ _ (show T + 1 ≠ T by omega)).trans h.ccw, (Below.heap_setCell _ _ _ _ (show T + 2 ≠ T by omega)).trans h.cwd, (Below.heap_setCell _ _ _ _ (show T + 3 ≠ T by omega)).trans h.ccwd⟩
theorem HM.set1 (h : HM T b c bd cd w0 w) (k : Nat) (v : Value) : HM T b (c.set k v) bd cd w0 (w.setCell ⟨T + 1, k, none⟩ v) :=
  ⟨h.below.setCell (show T ≤ T + 1 by omega) _, by simpa [World.setCell] using h.size, (Below.heap_setCell _ _ _ _ (show T ≠ T + 1 by omega)).trans h.cw, by rw [heap_setCell_same w (T + 1) k _ 74 v h.ccw, List.setIfInBounds_toArray], (Below.heap_setCell _ _ _ _ (show T + 2 ≠ T + 1 by omega)).trans h.cwd, (Below.heap_setCell _ _ _ _ (show T + 3 ≠ T + 1 by omega)).trans h.ccwd⟩

theorem HM.start (w : World) (x y z u : Array Value) : HM w.heap.size x.toList y.toList z.toList u.toList w ((((w.alloc (.cells x 74)).alloc (.cells y 74)).alloc (.cells z 75)).alloc (.cells u 75)) := by
  have push : ∀ (w1 : World) (o : Obj) (k : Nat), k < w1.heap.size → (w1.alloc o).heap[k]? = w1.heap[k]? := fun w1 o k hk => Below.heap_alloc w1 o k hk
  have sz : ∀ (w1 : World) (o : Obj), (w1.alloc o).heap.size = w1.heap.size + 1 := fun w1 o => by simp
  generalize hw1 : w.alloc (.cells x 74) = w1
  have s1 : w1.heap.size = w.heap.size + 1 := by rw [← hw1]; exact sz _ _
  have e1 : w1.heap[w.heap.size]? = some (.cells x 74 (0, 0)) := by rw [← hw1]; exact heap_alloc_new _ _
  have b1 : Below w.heap.size w w1 := by rw [← hw1]; exact (Below.refl _ _).alloc (Nat.le_refl _) _
  generalize hw2 : w1.alloc (.cells y 74) = w2
  have s2 : w2.heap.size = w.heap.size + 2 := by rw [← hw2, sz, s1]
  have e2 : w2.heap[w.heap.size + 1]? = some (.cells y 74 (0, 0)) := by rw [← hw2, ← s1]; exact heap_alloc_new _ _
  have b2 : Below w.heap.size w w2 := by rw [← hw2]; exact b1.alloc (by omega) _
  have k2 : ∀ k, k < w.heap.size + 1 → w2.heap[k]? = w1.heap[k]? := fun k hk => by rw [← hw2]; exact push _ _ _ (by omega)
  generalize hw3 : w2.alloc (.cells z 75) = w3
  have s3 : w3.heap.size = w.heap.size + 3 := by rw [← hw3, sz, s2]
  have e3 : w3.heap[w.heap.size + 2]? = some (.cells z 75 (0, 0)) := by rw [← hw3, ← s2]; exact heap_alloc_new _ _
  have b3 : Below w.heap.size w w3 := by rw [← hw3]; exact b2.alloc (by omega) _
  have k3 : ∀ k, k < w.heap.size + 2 → w3.heap[k]? = w2.heap[k]? := fun k hk => by rw [← hw3]; exact push _ _ _ (by omega)
  generalize hw4 : w3.alloc (.cells u 75) = w4
  have s4 : w4.heap.size = w.heap.size + 4 := by rw [← hw4, sz, s3]
  have e4 : w4.heap[w.heap.size + 3]? = some (.cells u 75 (0, 0)) := by rw [← hw4, ← s3]; exact heap_alloc_new _ _
  have b4 : Below w.heap.size w w4 := by rw [← hw4]; exact b3.alloc (by omega) _
  have k4 : ∀ k, k < w.heap.size + 3 → w4.heap[k]? = w3.heap[k]? := fun k hk => by rw [← hw4]; exact push _ _ _ (by omega)
  refine ⟨b4, by omega, ?_, ?_, ?_, e4⟩
  · exact (k4 _ (by omega)).trans ((k3 _ (by omega)).trans ((k2 _ (by omega)).trans e1))
  · exact (k4 _ (by omega)).trans ((k3 _ (by omega)).trans e2)
  · exact (k4 _ (by omega)).trans e3

/-- The two stores of a round, in either order: 74 at g, 75 at g'. -/
theorem two_stores {g g' : Nat} (hne : g ≠ g') {cur cur' : List Value} (h1 : w.heap[g]? = some (.cells cur.toArray 74 (0, 0))) (h2 : w.heap[g']? = some (.cells cur'.toArray 75 (0, 0))) (l1 : cur.length = 2) (l2 : cur'.length = 40) (B : Best) (hB : B.ok) :
    (vst 74 ⟨g, 0, none⟩ (aggV B.bs)).run Try.prog w = .ok () (w.setCells g 0 B.bs) ∧ (vst 75 ⟨g', 0, none⟩ (aggV B.ds)).run Try.prog (w.setCells g 0 B.bs) = .ok () ((w.setCells g 0 B.bs).setCells g' 0 B.ds) ∧
    (vst 75 ⟨g', 0, none⟩ (aggV B.ds)).run Try.prog w = .ok () (w.setCells g' 0 B.ds) ∧ (vst 74 ⟨g, 0, none⟩ (aggV B.bs)).run Try.prog (w.setCells g' 0 B.ds) = .ok () ((w.setCells g' 0 B.ds).setCells g 0 B.bs) := by
  have S74 : ∀ {w1 : World}, w1.heap[g]? = some (.cells cur.toArray 74 (0, 0)) → (vst 74 ⟨g, 0, none⟩ (aggV B.bs)).run Try.prog w1 = .ok () (w1.setCells g 0 B.bs) := fun h => stV_of (by rw [Try.size74]; rfl) (there_of h (by simp [l1, Best.bs])) bs_one
  have S75 : ∀ {w1 : World}, w1.heap[g']? = some (.cells cur'.toArray 75 (0, 0)) → (vst 75 ⟨g', 0, none⟩ (aggV B.ds)).run Try.prog w1 = .ok () (w1.setCells g' 0 B.ds) := fun h => stV_of (by rw [Try.size75, ds_len hB]) (there_of h (by simp [l2, ds_len hB])) ds_one
  exact ⟨S74 h1, S75 ((heap_setCells_ne (Ne.symm hne) _ _ _).trans h2), S75 h2, S74 ((heap_setCells_ne hne _ _ _).trans h1)⟩

theorem ld74_of {g : Nat} {B : Best} (h : w.heap[g]? = some (.cells B.bs.toArray 74 (0, 0))) : (vld 74 ⟨g, 0, none⟩).run Try.prog w = .ok (aggV B.bs) w := ldV_of Try.underlying74 rfl (by rw [Try.size74]; rfl) (rangeAt_of h)
theorem ld75_of {g : Nat} {B : Best} (hB : B.ok) (h : w.heap[g]? = some (.cells B.ds.toArray 75 (0, 0))) : (vld 75 ⟨g, 0, none⟩).run Try.prog w = .ok (aggV B.ds) w := ldV_of Try.underlying75 rfl (by rw [Try.size75, ds_len hB]) (rangeAt_of h)
end

/-- The answer of zzHoldsNearest. -/
def held (zs : List Int) (B C : Best) : Bool := (decide (B.b0 < 0) || inB zs B.b0) && (decide (C.b0 < 0) || inB zs C.b0) && (decide (B.b1 < 0) || inB zs B.b1) && (decide (C.b1 < 0) || inB zs C.b1)

def HeldEnd (zs : List Int) (f g : Nat → Nat) (i n : Nat) (e : Ending) : Prop := ∃ B C, e = .returned (.bool (held zs B C)) ∧ BI f i n B ∧ BI g i n C

theorem viaD {H P : World → List UInt8 → Prop} {G : Prop} (f : (∀ w d, H w d → P w d) → G) (x : ∀ w d, H w d → P w d) : G := f x

theorem held_two {p q : Prop} [Decidable p] [Decidable q] {x y : Bool} (h1 : p ∨ x = true) (h2 : q ∨ y = true) : ((decide p || x) && (decide q || y)) = true := by
  rcases h1 with h1 | h1 <;> rcases h2 with h2 | h2 <;> simp [h1, h2]

theorem held_all {zs : List Int} {B C : Best} (h : ((decide (B.b0 < 0) || inB zs B.b0) && (decide (C.b0 < 0) || inB zs C.b0)) = true) (h1 : B.b1 < 0 ∨ inB zs B.b1 = true) (h2 : C.b1 < 0 ∨ inB zs C.b1 = true) : held zs B C = true := by
  unfold held
  rw [h, Bool.true_and]
  exact held_two h1 h2

theorem held_no0 {zs : List Int} {B C : Best} (h : (¬ B.b0 < 0 ∧ inB zs B.b0 = false) ∨ (¬ C.b0 < 0 ∧ inB zs C.b0 = false)) : held zs B C = false := by
  unfold held
  rcases h with ⟨h1, h2⟩ | ⟨h1, h2⟩ <;> simp [h1, h2]

theorem held_no1 {zs : List Int} {B C : Best} (h : (¬ B.b1 < 0 ∧ inB zs B.b1 = false) ∨ (¬ C.b1 < 0 ∧ inB zs C.b1 = false)) : held zs B C = false := by
  unfold held
  rcases h with ⟨h1, h2⟩ | ⟨h1, h2⟩ <;> simp [h1, h2]

theorem past {l : Array Bool} {c : Nat} {p : Prop} (h : l.getD c true = true) : l.getD c true = false → p := fun h' => by rw [h] at h'; cases h'

attribute [local go_sem ↓] ld33 ld74 ld75 st74 st75

/-- Nothing yet. -/
def noBest : Best := ⟨-1, -1, List.replicate 20 0, List.replicate 20 0⟩

set_option maxHeartbeats 4000000 in
set_option maxRecDepth 100000 in
/-- 'zzHoldsNearest'. -/
theorem holds_zz (a : Option Addr) (n cap : Nat) (A : Nat → List UInt8) (v : Value) (zs : List Int) (i : Nat) (w : World) (hn : n ≤ 4096) (hi : i < n) (hA : AdrAt w a n A) (hV : Lst0 w v zs) :
    Calls Try.prog 26 #[.slice a n cap, v, .int .i64 i] w fun e w' => HeldEnd zs (fun j => dst (256 ^ 20) (num (A i)) (num (A j))) (fun j => dst (256 ^ 20) (num (A j)) (num (A i))) i n e ∧ Below w.heap.size w w' := by
  obtain ⟨f, hf⟩ : ∃ f : Nat → Nat, f = fun j => dst (256 ^ 20) (num (A i)) (num (A j)) := ⟨_, rfl⟩
  obtain ⟨g, hg⟩ : ∃ g : Nat → Nat, g = fun j => dst (256 ^ 20) (num (A j)) (num (A i)) := ⟨_, rfl⟩
  have HF : Hid (f = fun j => dst (256 ^ 20) (num (A i)) (num (A j))) := hf
  have HG : Hid (g = fun j => dst (256 ^ 20) (num (A j)) (num (A i))) := hg
  rw [← hf, ← hg]
  clear hf hg
  have I0 : Hid (HM w.heap.size z2.toList z2.toList z40.toList z40.toList w ((((w.alloc (.cells z2 74)).alloc (.cells z2 74)).alloc (.cells z40 75)).alloc (.cells z40 75))) := HM.start w z2 z2 z40 z40
  have HA : Hid (AdrAt w a n A) := hA
  have HV : Hid (Lst0 w v zs) := hV
  obtain ⟨T, hT⟩ : ∃ T, T = w.heap.size := ⟨_, rfl⟩
  have HT : Hid (T = w.heap.size) := hT
  rw [← hT] at I0 ⊢
  clear hA hV
  go_enter Try.func26, Try.ntmps26
  go_wp2_with fail
  rw [← hT]
  clear hT
  generalize ((((w.alloc (.cells z2 74)).alloc (.cells z2 74)).alloc (.cells z40 75)).alloc (.cells z40 75)) = w1 at I0 ⊢
  rw [show T + 1 + 1 + 1 = T + 3 by omega, show T + 1 + 1 = T + 2 by omega]
  go_loopw [11] (fun vs wr => ∃ (s : Nat) (b : List Value), vs = .int .i64 s ∧ Hid (HM T b b z40.toList z40.toList w wr) ∧ Hid ((s = 0 ∧ b = z2.toList) ∨ (s = 1 ∧ b = z2.toList.set 0 (.int .i64 (-1))) ∨ (s = 2 ∧ b = noBest.bs))) (fun vs _ => 2 - (intOf vs).toNat)
  case atStart => exact ⟨0, _, rfl, I0, .inl ⟨rfl, rfl⟩⟩
  case round =>
    obtain ⟨s, b, rfl, IK, HS⟩ := hrel
    clear I0
    have step : ∀ (k : Nat) (u : Value), b[k]? = some u → wr.cell? ⟨T, k, none⟩ = some u ∧ wr.frozen? ⟨T, k, none⟩ = false ∧ (wr.setCell ⟨T, k, none⟩ (.int .i64 (-1))).cell? ⟨T + 1, k, none⟩ = some u ∧ (wr.setCell ⟨T, k, none⟩ (.int .i64 (-1))).frozen? ⟨T + 1, k, none⟩ = false := fun k u hu => by
      have I1 := IK.out.set0 k (.int .i64 (-1))
      refine ⟨?_, by simp [World.frozen?, IK.out.cw], ?_, by simp [World.frozen?, I1.ccw]⟩
      · simpa [World.cell?, IK.out.cw] using hu
      · simpa [World.cell?, I1.ccw] using hu
    have HST : Hid (∀ k, HM T (b.set k (.int .i64 (-1))) (b.set k (.int .i64 (-1))) z40.toList z40.toList w ((wr.setCell ⟨T, k, none⟩ (.int .i64 (-1))).setCell ⟨T + 1, k, none⟩ (.int .i64 (-1)))) := fun k => (IK.out.set0 k _).set1 k _
    rcases HS.out with ⟨rfl, hb⟩ | ⟨rfl, hb⟩ | ⟨rfl, hb⟩
    · obtain ⟨c1, c2, c3, c4⟩ := step 0 (.int .i64 0) (by rw [hb]; rfl)
      have I2 : Hid _ := HST.out 0
      rw [hb] at I2
      clear step HST IK HS
      go_wp2_with fail
      go_roundw
      case rel => exact ⟨1, _, rfl, I2, .inr (.inl ⟨rfl, rfl⟩)⟩
      case measure => simp [intOf]
    · obtain ⟨c1, c2, c3, c4⟩ := step 1 (.int .i64 0) (by rw [hb]; rfl)
      have I2 : Hid _ := HST.out 1
      rw [hb] at I2
      clear step HST IK HS
      go_wp2_with fail
      go_roundw
      case rel => exact ⟨2, _, rfl, I2, .inr (.inr ⟨rfl, rfl⟩)⟩
      case measure => simp [intOf]
    · have IB : Hid (HM T noBest.bs noBest.bs noBest.ds noBest.ds w wr) := by have h := IK.out; rw [hb] at h; exact h
      clear IK HS step HST hb
      go_wp2_with fail
      go_loopw [12] (fun vj wr => ∃ (J : Nat) (B C : Best), J ≤ n ∧ vj = .int .i64 J ∧ Hid (HM T B.bs C.bs B.ds C.ds w wr) ∧ Hid (BI f i J B) ∧ Hid (BI g i J C)) (fun vj _ => n - (intOf vj).toNat)
      case atStart => exact ⟨0, noBest, noBest, Nat.zero_le _, rfl, IB, ⟨⟨rfl, rfl⟩, .inl ⟨rfl, rfl, fun j hj => absurd hj (Nat.not_lt_zero _)⟩⟩, ⟨⟨rfl, rfl⟩, .inl ⟨rfl, rfl, fun j hj => absurd hj (Nat.not_lt_zero _)⟩⟩⟩
      case round =>
        obtain ⟨J, B, C, hJn', rfl, IK, HB, HC⟩ := hrel
        clear IB
        by_cases hJn : J < n
        · by_cases hJi : J = i
          · subst hJi
            have HB2 : Hid _ := HB.out.skip
            have HC2 : Hid _ := HC.out.skip
            clear HB HC
            go_wp2_with fail
            go_roundw
            case rel => exact ⟨J + 1, B, C, by omega, by go_num, IK, HB2, HC2⟩
            case measure => simp [intOf]; omega
          · obtain ⟨blk, off, ha, hAll⟩ := HA.out.at (by omega)
            have hin := hi
            have hli := (hAll i hi).1
            have hlJ := (hAll J hJn).1
            rw [ha]
            clear hAll
            have S1K : Hid (∀ w', Below T w w' → (vld 33 ⟨blk, off + i * 20, none⟩).run Try.prog w' = .ok (addrV (A i)) w' ∧ (vld 33 ⟨blk, off + J * 20, none⟩).run Try.prog w' = .ok (addrV (A J)) w') := fun w' hb => by
              have h := HA.out.below (HT.out ▸ hb)
              rw [ha] at h
              exact ⟨load33 hli (h.get i hin).2, load33 hlJ (h.get J hJn).2⟩
            have hs1 := S1K.out wr.drew IK.out.below.drew
            have hs2 : (vld 74 ⟨T, 0, none⟩).run Try.prog wr.drew = .ok (aggV B.bs) wr.drew ∧ (vld 75 ⟨T + 2, 0, none⟩).run Try.prog wr.drew = .ok (aggV B.ds) wr.drew := ⟨ld74_of (w := wr.drew) IK.out.cw, ld75_of (w := wr.drew) HB.out.1 IK.out.cwd⟩
            have c41 := dist_zz (A i) (A J) hli hlJ wr.drew
            have C40 : Hid (∀ (d : List UInt8) (w2 : World), d.length = 20 → Calls Try.prog 40 #[aggV B.bs, aggV B.ds, .int .i64 J, addrV d] w2 fun e w' => e = .returned (.tuple #[aggV (ins B J d).bs, aggV (ins B J d).ds]) ∧ Below w2.heap.size w2 w') := fun d w2 hd => ins_zz B HB.out.1 J d hd w2
            have KD : Hid (∀ w2, Below wr.drew.heap.size wr.drew w2 → HM T B.bs C.bs B.ds C.ds w w2) := fun w2 hb => (IK.out.later ((Below.refl _ _).drew)).later hb
            have KB : Hid (∀ (d : List UInt8) (c : Nat), d.length = 20 → num d + num (A i) = num (A J) + c * 256 ^ 20 → BI f i (J + 1) (ins B J d)) := fun d c hd hnum => HB.out.step hJi hd (by
              have h1 := num_lt d
              have h2 := num_lt (A i)
              rw [hd] at h1
              rw [hli] at h2
              rw [HF.out]; exact dst_of h2 h1 hnum)
            have HBO : Hid B.ok := HB.out.1
            clear IK HB
            go_wp2_with fail
            refine' @viaD (fun w4 d => Hid (HM T (ins B J d).bs C.bs (ins B J d).ds C.ds w w4 ∧ BI f i (J + 1) (ins B J d))) _ _ ?leafF ?leafX
            case leafF =>
              intro hX
              refine wp_region_R (two 11 (fun w' => (vld 33 ⟨blk, off + i * 20, none⟩).run Try.prog w' = .ok (addrV (A i)) w' ∧ (vld 33 ⟨blk, off + J * 20, none⟩).run Try.prog w' = .ok (addrV (A J)) w') 12 (fun w' => (vld 74 ⟨T, 0, none⟩).run Try.prog w' = .ok (aggV B.bs) w' ∧ (vld 75 ⟨T + 2, 0, none⟩).run Try.prog w' = .ok (aggV B.ds) w')) (by kernel_rfl) ?_
              refine wpAnyR_load (i := 0) (c := 12) (v := aggV B.bs) (S := fun w' => (vld 74 ⟨T, 0, none⟩).run Try.prog w' = .ok (aggV B.bs) w' ∧ (vld 75 ⟨T + 2, 0, none⟩).run Try.prog w' = .ok (aggV B.ds) w') rfl rfl (by kernel_rfl) (fun w' h => h.2 rfl) (two_free rfl) (by kernel_rfl) (by kernel_rfl) (by kernel_rfl) (by kernel_rfl) (fun _ _ _ h => h) (Or.inl ⟨by rfl, ?_⟩) (heldR_two (fun _ => hs1) (fun _ => hs2)) ?_
              · rintro w' ⟨h1, h2⟩; go_simp
              refine wpAnyR_load (i := 1) (c := 12) (v := aggV B.ds) (S := fun w' => (vld 74 ⟨T, 0, none⟩).run Try.prog w' = .ok (aggV B.bs) w' ∧ (vld 75 ⟨T + 2, 0, none⟩).run Try.prog w' = .ok (aggV B.ds) w') rfl rfl (by kernel_rfl) (fun w' h => h.2 rfl) (two_free rfl) (by kernel_rfl) (by kernel_rfl) (by kernel_rfl) (by kernel_rfl) (fun _ _ _ h => h) (Or.inl ⟨by rfl, ?_⟩) (heldR_two (fun _ => hs1) (fun _ => hs2)) ?_
              · rintro w' ⟨h1, h2⟩; go_simp
              refine wpAnyR_pure (i := 2) (v := .int .i64 J) rfl (two_free rfl) (by kernel_rfl) (by kernel_rfl) (by kernel_rfl) (fun _ _ _ h => h) (Or.inl ⟨by rfl, ?_⟩) (heldR_two (fun _ => hs1) (fun _ => hs2)) ?_
              · intro w'; go_simp
              refine wpAnyR_pure (i := 3) (v := .slice (some ⟨blk, off, none⟩) n cap) rfl (two_free rfl) (by kernel_rfl) (by kernel_rfl) (by kernel_rfl) (fun _ _ _ h => h) (Or.inl ⟨by rfl, ?_⟩) (heldR_two (fun _ => hs1) (fun _ => hs2)) ?_
              · intro w'; go_simp
              refine wpAnyR_pure (i := 4) (v := .int .i64 i) rfl (two_free rfl) (by kernel_rfl) (by kernel_rfl) (by kernel_rfl) (fun _ _ _ h => h) (Or.inl ⟨by rfl, ?_⟩) (heldR_two (fun _ => hs1) (fun _ => hs2)) ?_
              · intro w'; go_simp
              refine wpAnyR_pure (i := 5) (v := .pointer (some ⟨blk, off + i * 20, none⟩)) rfl (two_free rfl) (by kernel_rfl) (by kernel_rfl) (by kernel_rfl) (fun _ _ _ h => h) (Or.inl ⟨by rfl, ?_⟩) (heldR_two (fun _ => hs1) (fun _ => hs2)) ?_
              · intro w'; go_simp
              refine wpAnyR_load (i := 6) (c := 11) (v := addrV (A i)) (S := fun w' => (vld 33 ⟨blk, off + i * 20, none⟩).run Try.prog w' = .ok (addrV (A i)) w' ∧ (vld 33 ⟨blk, off + J * 20, none⟩).run Try.prog w' = .ok (addrV (A J)) w') rfl rfl (by kernel_rfl) (fun w' h => h.1 rfl) (two_free rfl) (by kernel_rfl) (by kernel_rfl) (by kernel_rfl) (by kernel_rfl) (fun _ _ _ h => h) (Or.inl ⟨by rfl, ?_⟩) (heldR_two (fun _ => hs1) (fun _ => hs2)) ?_
              · rintro w' ⟨h1, h2⟩; go_simp
              refine wpAnyR_pure (i := 7) (v := .slice (some ⟨blk, off, none⟩) n cap) rfl (two_free rfl) (by kernel_rfl) (by kernel_rfl) (by kernel_rfl) (fun _ _ _ h => h) (Or.inl ⟨by rfl, ?_⟩) (heldR_two (fun _ => hs1) (fun _ => hs2)) ?_
              · intro w'; go_simp
              refine wpAnyR_pure (i := 8) (v := .int .i64 J) rfl (two_free rfl) (by kernel_rfl) (by kernel_rfl) (by kernel_rfl) (fun _ _ _ h => h) (Or.inl ⟨by rfl, ?_⟩) (heldR_two (fun _ => hs1) (fun _ => hs2)) ?_
              · intro w'; go_simp
              refine wpAnyR_pure (i := 9) (v := .pointer (some ⟨blk, off + J * 20, none⟩)) rfl (two_free rfl) (by kernel_rfl) (by kernel_rfl) (by kernel_rfl) (fun _ _ _ h => h) (Or.inl ⟨by rfl, ?_⟩) (heldR_two (fun _ => hs1) (fun _ => hs2)) ?_
              · intro w'; go_simp
              refine wpAnyR_load (i := 10) (c := 11) (v := addrV (A J)) (S := fun w' => (vld 33 ⟨blk, off + i * 20, none⟩).run Try.prog w' = .ok (addrV (A i)) w' ∧ (vld 33 ⟨blk, off + J * 20, none⟩).run Try.prog w' = .ok (addrV (A J)) w') rfl rfl (by kernel_rfl) (fun w' h => h.1 rfl) (two_free rfl) (by kernel_rfl) (by kernel_rfl) (by kernel_rfl) (by kernel_rfl) (fun _ _ _ h => h) (Or.inl ⟨by rfl, ?_⟩) (heldR_two (fun _ => hs1) (fun _ => hs2)) ?_
              · rintro w' ⟨h1, h2⟩; go_simp
              refine wpAnyR_ready (rs := [11]) (by kernel_rfl) (by simp) ?_
              refine AllReadyR.cons rfl (fun K hK => ?_) AllReadyR.nil
              go_simp
              go_wp2_with (go_at_call 41; refine c41.mono ?_; rintro e w2 ⟨⟨d, c, rfl, hd, hnum⟩, hb2⟩)
              have MB : Hid (BI f i (J + 1) (ins B J d)) := KB.out d c hd hnum
              have M2 : Hid (HM T B.bs C.bs B.ds C.ds w w2) := KD.out w2 hb2
              have c40 := C40.out d w2 hd
              refine hK.out _ _ (heldR_two (past (by kernel_rfl)) (fun _ => ⟨ld74_of M2.out.cw, ld75_of HBO.out M2.out.cwd⟩)) ?_
              clear hK K
              refine wpAnyR_ready (rs := [12]) (by kernel_rfl) (by simp) ?_
              refine AllReadyR.cons rfl (fun K hK => ?_) AllReadyR.nil
              go_simp
              go_wp2_with (go_at_call 40; refine c40.mono ?_; rintro e w3 ⟨rfl, hb3⟩)
              have M3 : Hid (HM T B.bs C.bs B.ds C.ds w w3) := M2.out.later hb3
              obtain ⟨t1, t2, t3, t4⟩ := two_stores (by omega) M3.out.cw M3.out.cwd rfl (ds_len HBO.out) (ins B J d) MB.out.1
              refine hK.out _ _ (heldR_two (past (by kernel_rfl)) (past (by kernel_rfl))) ?_
              clear hK K c40 M2 hb3 hb2 hnum
              refine wpAnyR_pure (i := 13) (v := .tuple #[aggV (ins B J d).bs, aggV (ins B J d).ds]) rfl (two_free rfl) (by kernel_rfl) (by kernel_rfl) (by kernel_rfl) (fun _ _ _ h => h) (Or.inl ⟨by rfl, ?_⟩) (heldR_two (past (by kernel_rfl)) (past (by kernel_rfl))) ?_
              · intro w'; go_simp
              refine wpAnyR_pure (i := 14) (v := aggV (ins B J d).bs) rfl (two_free rfl) (by kernel_rfl) (by kernel_rfl) (by kernel_rfl) (fun _ _ _ h => h) (Or.inl ⟨by rfl, ?_⟩) (heldR_two (past (by kernel_rfl)) (past (by kernel_rfl))) ?_
              · intro w'; go_simp
              refine wpAnyR_pure (i := 15) (v := aggV (ins B J d).ds) rfl (two_free rfl) (by kernel_rfl) (by kernel_rfl) (by kernel_rfl) (fun _ _ _ h => h) (Or.inl ⟨by rfl, ?_⟩) (heldR_two (past (by kernel_rfl)) (past (by kernel_rfl))) ?_
              · intro w'; go_simp
              refine wpAnyR_ready (rs := [16]) (by kernel_rfl) (by simp) ?_
              refine AllReadyR.cons rfl (fun K hK => ?_) AllReadyR.nil
              · go_simp
                refine hK.out _ _ (heldR_two (past (by kernel_rfl)) (past (by kernel_rfl))) ?_
                clear hK K
                refine wpAnyR_ready (rs := [17]) (by kernel_rfl) (by simp) ?_
                refine AllReadyR.cons rfl (fun K hK => ?_) AllReadyR.nil
                go_simp
                refine hK.out _ _ (heldR_two (past (by kernel_rfl)) (past (by kernel_rfl))) ?_
                clear hK K
                refine wpAnyR_done (by kernel_rfl) ?_ _
                have M4 : Hid (HM T (ins B J d).bs C.bs (ins B J d).ds C.ds w ((w3.setCells (T) 0 (ins B J d).bs).setCells (T + 2) 0 (ins B J d).ds) ∧ BI f i (J + 1) (ins B J d)) := ⟨(M3.out.put0 (show B.bs.length = (ins B J d).bs.length from rfl)).put2 (show B.ds.length = (ins B J d).ds.length by rw [ds_len HBO.out, ds_len MB.out.1]), MB.out⟩
                clear M3 MB t1 t2 t3 t4
                generalize (w3.setCells (T) 0 (ins B J d).bs).setCells (T + 2) 0 (ins B J d).ds = w4 at M4 ⊢
                exact hX w4 d M4
            intro w4 d MB
            clear c41 C40 KD KB HBO hs1 hs2 S1K
            have IK : Hid (HM T (ins B J d).bs C.bs (ins B J d).ds C.ds w w4) := MB.out.1
            have HB2 : Hid (BI f i (J + 1) (ins B J d)) := MB.out.2
            clear MB
            generalize ins B J d = B' at IK HB2 ⊢
            have S1K : Hid (∀ w', Below T w w' → (vld 33 ⟨blk, off + J * 20, none⟩).run Try.prog w' = .ok (addrV (A J)) w' ∧ (vld 33 ⟨blk, off + i * 20, none⟩).run Try.prog w' = .ok (addrV (A i)) w') := fun w' hb => by
              have h := HA.out.below (HT.out ▸ hb)
              rw [ha] at h
              exact ⟨load33 hlJ (h.get J hJn).2, load33 hli (h.get i hin).2⟩
            have hs1 := S1K.out w4.drew IK.out.below.drew
            have hs2 : (vld 74 ⟨T + 1, 0, none⟩).run Try.prog w4.drew = .ok (aggV C.bs) w4.drew ∧ (vld 75 ⟨T + 3, 0, none⟩).run Try.prog w4.drew = .ok (aggV C.ds) w4.drew := ⟨ld74_of (w := w4.drew) IK.out.ccw, ld75_of (w := w4.drew) HC.out.1 IK.out.ccwd⟩
            have c41 := dist_zz (A J) (A i) hlJ hli w4.drew
            have C40 : Hid (∀ (d : List UInt8) (w2 : World), d.length = 20 → Calls Try.prog 40 #[aggV C.bs, aggV C.ds, .int .i64 J, addrV d] w2 fun e w' => e = .returned (.tuple #[aggV (ins C J d).bs, aggV (ins C J d).ds]) ∧ Below w2.heap.size w2 w') := fun d w2 hd => ins_zz C HC.out.1 J d hd w2
            have KD : Hid (∀ w2, Below w4.drew.heap.size w4.drew w2 → HM T B'.bs C.bs B'.ds C.ds w w2) := fun w2 hb => (IK.out.later ((Below.refl _ _).drew)).later hb
            have KB : Hid (∀ (d : List UInt8) (c : Nat), d.length = 20 → num d + num (A J) = num (A i) + c * 256 ^ 20 → BI g i (J + 1) (ins C J d)) := fun d c hd hnum => HC.out.step hJi hd (by
              have h1 := num_lt d
              have h2 := num_lt (A J)
              rw [hd] at h1
              rw [hlJ] at h2
              rw [HG.out]; exact dst_of h2 h1 hnum)
            have HBO : Hid C.ok := HC.out.1
            clear IK HC
            go_wp2_with fail
            refine' @viaD (fun w4 d => Hid (HM T B'.bs (ins C J d).bs B'.ds (ins C J d).ds w w4 ∧ BI g i (J + 1) (ins C J d))) _ _ ?leafG ?leafY
            case leafG =>
              intro hX
              refine wp_region_R (two 11 (fun w' => (vld 33 ⟨blk, off + J * 20, none⟩).run Try.prog w' = .ok (addrV (A J)) w' ∧ (vld 33 ⟨blk, off + i * 20, none⟩).run Try.prog w' = .ok (addrV (A i)) w') 12 (fun w' => (vld 74 ⟨T + 1, 0, none⟩).run Try.prog w' = .ok (aggV C.bs) w' ∧ (vld 75 ⟨T + 3, 0, none⟩).run Try.prog w' = .ok (aggV C.ds) w')) (by kernel_rfl) ?_
              refine wpAnyR_load (i := 0) (c := 12) (v := aggV C.bs) (S := fun w' => (vld 74 ⟨T + 1, 0, none⟩).run Try.prog w' = .ok (aggV C.bs) w' ∧ (vld 75 ⟨T + 3, 0, none⟩).run Try.prog w' = .ok (aggV C.ds) w') rfl rfl (by kernel_rfl) (fun w' h => h.2 rfl) (two_free rfl) (by kernel_rfl) (by kernel_rfl) (by kernel_rfl) (by kernel_rfl) (fun _ _ _ h => h) (Or.inl ⟨by rfl, ?_⟩) (heldR_two (fun _ => hs1) (fun _ => hs2)) ?_
              · rintro w' ⟨h1, h2⟩; go_simp
              refine wpAnyR_load (i := 1) (c := 12) (v := aggV C.ds) (S := fun w' => (vld 74 ⟨T + 1, 0, none⟩).run Try.prog w' = .ok (aggV C.bs) w' ∧ (vld 75 ⟨T + 3, 0, none⟩).run Try.prog w' = .ok (aggV C.ds) w') rfl rfl (by kernel_rfl) (fun w' h => h.2 rfl) (two_free rfl) (by kernel_rfl) (by kernel_rfl) (by kernel_rfl) (by kernel_rfl) (fun _ _ _ h => h) (Or.inl ⟨by rfl, ?_⟩) (heldR_two (fun _ => hs1) (fun _ => hs2)) ?_
              · rintro w' ⟨h1, h2⟩; go_simp
              refine wpAnyR_pure (i := 2) (v := .int .i64 J) rfl (two_free rfl) (by kernel_rfl) (by kernel_rfl) (by kernel_rfl) (fun _ _ _ h => h) (Or.inl ⟨by rfl, ?_⟩) (heldR_two (fun _ => hs1) (fun _ => hs2)) ?_
              · intro w'; go_simp
              refine wpAnyR_pure (i := 3) (v := .slice (some ⟨blk, off, none⟩) n cap) rfl (two_free rfl) (by kernel_rfl) (by kernel_rfl) (by kernel_rfl) (fun _ _ _ h => h) (Or.inl ⟨by rfl, ?_⟩) (heldR_two (fun _ => hs1) (fun _ => hs2)) ?_
              · intro w'; go_simp
              refine wpAnyR_pure (i := 4) (v := .int .i64 J) rfl (two_free rfl) (by kernel_rfl) (by kernel_rfl) (by kernel_rfl) (fun _ _ _ h => h) (Or.inl ⟨by rfl, ?_⟩) (heldR_two (fun _ => hs1) (fun _ => hs2)) ?_
              · intro w'; go_simp
              refine wpAnyR_pure (i := 5) (v := .pointer (some ⟨blk, off + J * 20, none⟩)) rfl (two_free rfl) (by kernel_rfl) (by kernel_rfl) (by kernel_rfl) (fun _ _ _ h => h) (Or.inl ⟨by rfl, ?_⟩) (heldR_two (fun _ => hs1) (fun _ => hs2)) ?_
              · intro w'; go_simp
              refine wpAnyR_load (i := 6) (c := 11) (v := addrV (A J)) (S := fun w' => (vld 33 ⟨blk, off + J * 20, none⟩).run Try.prog w' = .ok (addrV (A J)) w' ∧ (vld 33 ⟨blk, off + i * 20, none⟩).run Try.prog w' = .ok (addrV (A i)) w') rfl rfl (by kernel_rfl) (fun w' h => h.1 rfl) (two_free rfl) (by kernel_rfl) (by kernel_rfl) (by kernel_rfl) (by kernel_rfl) (fun _ _ _ h => h) (Or.inl ⟨by rfl, ?_⟩) (heldR_two (fun _ => hs1) (fun _ => hs2)) ?_
              · rintro w' ⟨h1, h2⟩; go_simp
              refine wpAnyR_pure (i := 7) (v := .slice (some ⟨blk, off, none⟩) n cap) rfl (two_free rfl) (by kernel_rfl) (by kernel_rfl) (by kernel_rfl) (fun _ _ _ h => h) (Or.inl ⟨by rfl, ?_⟩) (heldR_two (fun _ => hs1) (fun _ => hs2)) ?_
              · intro w'; go_simp
              refine wpAnyR_pure (i := 8) (v := .int .i64 i) rfl (two_free rfl) (by kernel_rfl) (by kernel_rfl) (by kernel_rfl) (fun _ _ _ h => h) (Or.inl ⟨by rfl, ?_⟩) (heldR_two (fun _ => hs1) (fun _ => hs2)) ?_
              · intro w'; go_simp
              refine wpAnyR_pure (i := 9) (v := .pointer (some ⟨blk, off + i * 20, none⟩)) rfl (two_free rfl) (by kernel_rfl) (by kernel_rfl) (by kernel_rfl) (fun _ _ _ h => h) (Or.inl ⟨by rfl, ?_⟩) (heldR_two (fun _ => hs1) (fun _ => hs2)) ?_
              · intro w'; go_simp
              refine wpAnyR_load (i := 10) (c := 11) (v := addrV (A i)) (S := fun w' => (vld 33 ⟨blk, off + J * 20, none⟩).run Try.prog w' = .ok (addrV (A J)) w' ∧ (vld 33 ⟨blk, off + i * 20, none⟩).run Try.prog w' = .ok (addrV (A i)) w') rfl rfl (by kernel_rfl) (fun w' h => h.1 rfl) (two_free rfl) (by kernel_rfl) (by kernel_rfl) (by kernel_rfl) (by kernel_rfl) (fun _ _ _ h => h) (Or.inl ⟨by rfl, ?_⟩) (heldR_two (fun _ => hs1) (fun _ => hs2)) ?_
              · rintro w' ⟨h1, h2⟩; go_simp
              refine wpAnyR_ready (rs := [11]) (by kernel_rfl) (by simp) ?_
              refine AllReadyR.cons rfl (fun K hK => ?_) AllReadyR.nil
              go_simp
              go_wp2_with (go_at_call 41; refine c41.mono ?_; rintro e w2 ⟨⟨d, c, rfl, hd, hnum⟩, hb2⟩)
              have MB : Hid (BI g i (J + 1) (ins C J d)) := KB.out d c hd hnum
              have M2 : Hid (HM T B'.bs C.bs B'.ds C.ds w w2) := KD.out w2 hb2
              have c40 := C40.out d w2 hd
              refine hK.out _ _ (heldR_two (past (by kernel_rfl)) (fun _ => ⟨ld74_of M2.out.ccw, ld75_of HBO.out M2.out.ccwd⟩)) ?_
              clear hK K
              refine wpAnyR_ready (rs := [12]) (by kernel_rfl) (by simp) ?_
              refine AllReadyR.cons rfl (fun K hK => ?_) AllReadyR.nil
              go_simp
              go_wp2_with (go_at_call 40; refine c40.mono ?_; rintro e w3 ⟨rfl, hb3⟩)
              have M3 : Hid (HM T B'.bs C.bs B'.ds C.ds w w3) := M2.out.later hb3
              obtain ⟨t1, t2, t3, t4⟩ := two_stores (by omega) M3.out.ccw M3.out.ccwd rfl (ds_len HBO.out) (ins C J d) MB.out.1
              refine hK.out _ _ (heldR_two (past (by kernel_rfl)) (past (by kernel_rfl))) ?_
              clear hK K c40 M2 hb3 hb2 hnum
              refine wpAnyR_pure (i := 13) (v := .tuple #[aggV (ins C J d).bs, aggV (ins C J d).ds]) rfl (two_free rfl) (by kernel_rfl) (by kernel_rfl) (by kernel_rfl) (fun _ _ _ h => h) (Or.inl ⟨by rfl, ?_⟩) (heldR_two (past (by kernel_rfl)) (past (by kernel_rfl))) ?_
              · intro w'; go_simp
              refine wpAnyR_pure (i := 14) (v := aggV (ins C J d).bs) rfl (two_free rfl) (by kernel_rfl) (by kernel_rfl) (by kernel_rfl) (fun _ _ _ h => h) (Or.inl ⟨by rfl, ?_⟩) (heldR_two (past (by kernel_rfl)) (past (by kernel_rfl))) ?_
              · intro w'; go_simp
              refine wpAnyR_pure (i := 15) (v := aggV (ins C J d).ds) rfl (two_free rfl) (by kernel_rfl) (by kernel_rfl) (by kernel_rfl) (fun _ _ _ h => h) (Or.inl ⟨by rfl, ?_⟩) (heldR_two (past (by kernel_rfl)) (past (by kernel_rfl))) ?_
              · intro w'; go_simp
              refine wpAnyR_ready (rs := [16]) (by kernel_rfl) (by simp) ?_
              refine AllReadyR.cons rfl (fun K hK => ?_) AllReadyR.nil
              · go_simp
                refine hK.out _ _ (heldR_two (past (by kernel_rfl)) (past (by kernel_rfl))) ?_
                clear hK K
                refine wpAnyR_ready (rs := [17]) (by kernel_rfl) (by simp) ?_
                refine AllReadyR.cons rfl (fun K hK => ?_) AllReadyR.nil
                go_simp
                refine hK.out _ _ (heldR_two (past (by kernel_rfl)) (past (by kernel_rfl))) ?_
                clear hK K
                refine wpAnyR_done (by kernel_rfl) ?_ _
                have M4 : Hid (HM T B'.bs (ins C J d).bs B'.ds (ins C J d).ds w ((w3.setCells (T + 1) 0 (ins C J d).bs).setCells (T + 3) 0 (ins C J d).ds) ∧ BI g i (J + 1) (ins C J d)) := ⟨(M3.out.put1 (show C.bs.length = (ins C J d).bs.length from rfl)).put3 (show C.ds.length = (ins C J d).ds.length by rw [ds_len HBO.out, ds_len MB.out.1]), MB.out⟩
                clear M3 MB t1 t2 t3 t4
                generalize (w3.setCells (T + 1) 0 (ins C J d).bs).setCells (T + 3) 0 (ins C J d).ds = w4 at M4 ⊢
                exact hX w4 d M4
            intro w5 d MB
            clear c41 C40 KD KB HBO hs1 hs2 S1K
            have IK : Hid (HM T B'.bs (ins C J d).bs B'.ds (ins C J d).ds w w5) := MB.out.1
            have HC2 : Hid (BI g i (J + 1) (ins C J d)) := MB.out.2
            clear MB
            generalize ins C J d = C' at IK HC2 ⊢
            go_wp2_with fail
            refine ⟨?_, ?_⟩
            · repeat apply Exists.intro
              refine ⟨?_, rfl⟩
              exact ⟨J + 1, B', C', by omega, by go_num, IK, HB2, HC2⟩
            · simp [intOf]; omega
        · have hJe : J = n := by omega
          subst hJe
          clear hJn hJn'
          go_wp2_with fail
          go_loopw [13] (fun vs wk => ∃ (s : Nat), vs = .int .i64 s ∧ Hid (HM T B.bs C.bs B.ds C.ds w wk) ∧ Hid (s = 0 ∨ (s = 1 ∧ ((decide (B.b0 < 0) || inB zs B.b0) && (decide (C.b0 < 0) || inB zs C.b0)) = true) ∨ (s = 2 ∧ held zs B C = true))) (fun vs _ => 2 - (intOf vs).toNat)
          case atStart => exact ⟨0, rfl, IK, .inl rfl⟩
          case round =>
            clear IK
            obtain ⟨s, rfl, IK, HS⟩ := hrel
            have hV := HV.out.below (HT.out ▸ IK.out.below)
            rcases HS.out with rfl | ⟨rfl, hs⟩ | ⟨rfl, hs⟩
            · have e1 : wr.cell? ⟨T, 0, none⟩ = some (.int .i64 B.b0) := rangeAt_of IK.out.cw 0 _ rfl
              have e2 : wr.cell? ⟨T + 1, 0, none⟩ = some (.int .i64 C.b0) := rangeAt_of IK.out.ccw 0 _ rfl
              have c1 := in_any v zs B.b0 wr hV
              have c2 := in_any v zs C.b0 wr hV
              clear hV
              by_cases hx : B.b0 < 0
              · have hd1 : decide (0 ≤ B.b0) = false := by simp; omega
                clear c1
                by_cases hy : C.b0 < 0
                · have hd2 : decide (0 ≤ C.b0) = false := by simp; omega
                  have HR : Hid (((decide (B.b0 < 0) || inB zs B.b0) && (decide (C.b0 < 0) || inB zs C.b0)) = true) := held_two (.inl hx) (.inl hy)
                  clear c2
                  go_wp2_with fail
                  refine ⟨?_, ?_⟩
                  · first
                      | exact ⟨1, rfl, IK, .inr (.inl ⟨rfl, HR.out⟩)⟩
                      | (repeat apply Exists.intro
                         refine ⟨?_, rfl⟩
                         exact ⟨1, rfl, IK, .inr (.inl ⟨rfl, HR.out⟩)⟩)
                  · simp [intOf]
                · have hd2 : decide (0 ≤ C.b0) = true := by simp; omega
                  rcases (show inB zs C.b0 = true ∨ inB zs C.b0 = false by cases inB zs C.b0 <;> simp) with hyi | hyi
                  · rw [hyi] at c2
                    have HR : Hid (((decide (B.b0 < 0) || inB zs B.b0) && (decide (C.b0 < 0) || inB zs C.b0)) = true) := held_two (.inl hx) (.inr hyi)
                    clear hyi
                    go_wp2_with fail
                    refine c2.mono ?_
                    rintro e w9 ⟨rfl, rfl⟩
                    go_wp2_with fail
                    refine ⟨?_, ?_⟩
                    · first
                        | exact ⟨1, rfl, IK, .inr (.inl ⟨rfl, HR.out⟩)⟩
                        | (repeat apply Exists.intro
                           refine ⟨?_, rfl⟩
                           exact ⟨1, rfl, IK, .inr (.inl ⟨rfl, HR.out⟩)⟩)
                    · simp [intOf]
                  · rw [hyi] at c2
                    have HR : Hid (held zs B C = false) := held_no0 (.inr ⟨hy, hyi⟩)
                    clear hyi
                    go_wp2_with fail
                    refine c2.mono ?_
                    rintro e w9 ⟨rfl, rfl⟩
                    go_wp2_with fail
                    go_ret
                    exact ⟨⟨B, C, by rw [HR.out]; rfl, HB.out, HC.out⟩, IK.out.below⟩
              · have hd1 : decide (0 ≤ B.b0) = true := by simp; omega
                rcases (show inB zs B.b0 = true ∨ inB zs B.b0 = false by cases inB zs B.b0 <;> simp) with hxi | hxi
                · rw [hxi] at c1
                  have HXI : Hid (inB zs B.b0 = true) := hxi
                  clear hxi
                  go_wp2_with fail
                  refine c1.mono ?_
                  rintro e w8 ⟨rfl, rfl⟩
                  clear c1
                  by_cases hy : C.b0 < 0
                  · have hd2 : decide (0 ≤ C.b0) = false := by simp; omega
                    have HR : Hid (((decide (B.b0 < 0) || inB zs B.b0) && (decide (C.b0 < 0) || inB zs C.b0)) = true) := held_two (.inr HXI.out) (.inl hy)
                    clear c2
                    go_wp2_with fail
                    refine ⟨?_, ?_⟩
                    · first
                        | exact ⟨1, rfl, IK, .inr (.inl ⟨rfl, HR.out⟩)⟩
                        | (repeat apply Exists.intro
                           refine ⟨?_, rfl⟩
                           exact ⟨1, rfl, IK, .inr (.inl ⟨rfl, HR.out⟩)⟩)
                    · simp [intOf]
                  · have hd2 : decide (0 ≤ C.b0) = true := by simp; omega
                    rcases (show inB zs C.b0 = true ∨ inB zs C.b0 = false by cases inB zs C.b0 <;> simp) with hyi | hyi
                    · rw [hyi] at c2
                      have HR : Hid (((decide (B.b0 < 0) || inB zs B.b0) && (decide (C.b0 < 0) || inB zs C.b0)) = true) := held_two (.inr HXI.out) (.inr hyi)
                      clear hyi
                      go_wp2_with fail
                      refine c2.mono ?_
                      rintro e w9 ⟨rfl, rfl⟩
                      go_wp2_with fail
                      refine ⟨?_, ?_⟩
                      · first
                          | exact ⟨1, rfl, IK, .inr (.inl ⟨rfl, HR.out⟩)⟩
                          | (repeat apply Exists.intro
                             refine ⟨?_, rfl⟩
                             exact ⟨1, rfl, IK, .inr (.inl ⟨rfl, HR.out⟩)⟩)
                      · simp [intOf]
                    · rw [hyi] at c2
                      have HR : Hid (held zs B C = false) := held_no0 (.inr ⟨hy, hyi⟩)
                      clear hyi
                      go_wp2_with fail
                      refine c2.mono ?_
                      rintro e w9 ⟨rfl, rfl⟩
                      go_wp2_with fail
                      go_ret
                      exact ⟨⟨B, C, by rw [HR.out]; rfl, HB.out, HC.out⟩, IK.out.below⟩
                · rw [hxi] at c1
                  have HR : Hid (held zs B C = false) := held_no0 (.inl ⟨hx, hxi⟩)
                  clear c2 hxi
                  go_wp2_with fail
                  refine c1.mono ?_
                  rintro e w9 ⟨rfl, rfl⟩
                  go_wp2_with fail
                  go_ret
                  exact ⟨⟨B, C, by rw [HR.out]; rfl, HB.out, HC.out⟩, IK.out.below⟩
            · have e1 : wr.cell? ⟨T, 1, none⟩ = some (.int .i64 B.b1) := rangeAt_of IK.out.cw 1 _ rfl
              have e2 : wr.cell? ⟨T + 1, 1, none⟩ = some (.int .i64 C.b1) := rangeAt_of IK.out.ccw 1 _ rfl
              have c1 := in_any v zs B.b1 wr hV
              have c2 := in_any v zs C.b1 wr hV
              clear hV
              have HS0 : Hid (((decide (B.b0 < 0) || inB zs B.b0) && (decide (C.b0 < 0) || inB zs C.b0)) = true) := hs
              clear hs
              by_cases hx : B.b1 < 0
              · have hd1 : decide (0 ≤ B.b1) = false := by simp; omega
                clear c1
                by_cases hy : C.b1 < 0
                · have hd2 : decide (0 ≤ C.b1) = false := by simp; omega
                  have HR : Hid (held zs B C = true) := held_all HS0.out (.inl hx) (.inl hy)
                  clear c2
                  go_wp2_with fail
                  refine ⟨?_, ?_⟩
                  · first
                      | exact ⟨2, rfl, IK, .inr (.inr ⟨rfl, HR.out⟩)⟩
                      | (repeat apply Exists.intro
                         refine ⟨?_, rfl⟩
                         exact ⟨2, rfl, IK, .inr (.inr ⟨rfl, HR.out⟩)⟩)
                  · simp [intOf]
                · have hd2 : decide (0 ≤ C.b1) = true := by simp; omega
                  rcases (show inB zs C.b1 = true ∨ inB zs C.b1 = false by cases inB zs C.b1 <;> simp) with hyi | hyi
                  · rw [hyi] at c2
                    have HR : Hid (held zs B C = true) := held_all HS0.out (.inl hx) (.inr hyi)
                    clear hyi
                    go_wp2_with fail
                    refine c2.mono ?_
                    rintro e w9 ⟨rfl, rfl⟩
                    go_wp2_with fail
                    refine ⟨?_, ?_⟩
                    · first
                        | exact ⟨2, rfl, IK, .inr (.inr ⟨rfl, HR.out⟩)⟩
                        | (repeat apply Exists.intro
                           refine ⟨?_, rfl⟩
                           exact ⟨2, rfl, IK, .inr (.inr ⟨rfl, HR.out⟩)⟩)
                    · simp [intOf]
                  · rw [hyi] at c2
                    have HR : Hid (held zs B C = false) := held_no1 (.inr ⟨hy, hyi⟩)
                    clear hyi
                    go_wp2_with fail
                    refine c2.mono ?_
                    rintro e w9 ⟨rfl, rfl⟩
                    go_wp2_with fail
                    go_ret
                    exact ⟨⟨B, C, by rw [HR.out]; rfl, HB.out, HC.out⟩, IK.out.below⟩
              · have hd1 : decide (0 ≤ B.b1) = true := by simp; omega
                rcases (show inB zs B.b1 = true ∨ inB zs B.b1 = false by cases inB zs B.b1 <;> simp) with hxi | hxi
                · rw [hxi] at c1
                  have HXI : Hid (inB zs B.b1 = true) := hxi
                  clear hxi
                  go_wp2_with fail
                  refine c1.mono ?_
                  rintro e w8 ⟨rfl, rfl⟩
                  clear c1
                  by_cases hy : C.b1 < 0
                  · have hd2 : decide (0 ≤ C.b1) = false := by simp; omega
                    have HR : Hid (held zs B C = true) := held_all HS0.out (.inr HXI.out) (.inl hy)
                    clear c2
                    go_wp2_with fail
                    refine ⟨?_, ?_⟩
                    · first
                        | exact ⟨2, rfl, IK, .inr (.inr ⟨rfl, HR.out⟩)⟩
                        | (repeat apply Exists.intro
                           refine ⟨?_, rfl⟩
                           exact ⟨2, rfl, IK, .inr (.inr ⟨rfl, HR.out⟩)⟩)
                    · simp [intOf]
                  · have hd2 : decide (0 ≤ C.b1) = true := by simp; omega
                    rcases (show inB zs C.b1 = true ∨ inB zs C.b1 = false by cases inB zs C.b1 <;> simp) with hyi | hyi
                    · rw [hyi] at c2
                      have HR : Hid (held zs B C = true) := held_all HS0.out (.inr HXI.out) (.inr hyi)
                      clear hyi
                      go_wp2_with fail
                      refine c2.mono ?_
                      rintro e w9 ⟨rfl, rfl⟩
                      go_wp2_with fail
                      refine ⟨?_, ?_⟩
                      · first
                          | exact ⟨2, rfl, IK, .inr (.inr ⟨rfl, HR.out⟩)⟩
                          | (repeat apply Exists.intro
                             refine ⟨?_, rfl⟩
                             exact ⟨2, rfl, IK, .inr (.inr ⟨rfl, HR.out⟩)⟩)
                      · simp [intOf]
                    · rw [hyi] at c2
                      have HR : Hid (held zs B C = false) := held_no1 (.inr ⟨hy, hyi⟩)
                      clear hyi
                      go_wp2_with fail
                      refine c2.mono ?_
                      rintro e w9 ⟨rfl, rfl⟩
                      go_wp2_with fail
                      go_ret
                      exact ⟨⟨B, C, by rw [HR.out]; rfl, HB.out, HC.out⟩, IK.out.below⟩
                · rw [hxi] at c1
                  have HR : Hid (held zs B C = false) := held_no1 (.inl ⟨hx, hxi⟩)
                  clear c2 hxi
                  go_wp2_with fail
                  refine c1.mono ?_
                  rintro e w9 ⟨rfl, rfl⟩
                  go_wp2_with fail
                  go_ret
                  exact ⟨⟨B, C, by rw [HR.out]; rfl, HB.out, HC.out⟩, IK.out.below⟩
            · have HR : Hid (held zs B C = true) := hs
              clear hs hV
              go_wp2_with fail
              go_ret
              exact ⟨⟨B, C, by rw [HR.out]; rfl, HB.out, HC.out⟩, IK.out.below⟩
end Go.Proofs.Qxb6601491a
