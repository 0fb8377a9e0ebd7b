/-
  zzInsertNearest, walked: the walk.
-/
import Derived.Test.Qxb6601491aRgC
namespace Go.Proofs.Qxb6601491a
open Go.RowKit
open Go.Extern.Stop (cell)

section
variable {T : Nat} {B : Best} {d : List UInt8} {w0 w w' : World}

/-- A part of a row, stored. -/
theorem heap_setCells_part {b : Nat} {t : TypeId} : ∀ (vs mid pre post : List Value) (w : World), mid.length = vs.length → w.heap[b]? = some (.cells (pre ++ mid ++ post).toArray t (0, 0)) → (w.setCells b pre.length vs).heap[b]? = some (.cells (pre ++ vs ++ post).toArray t (0, 0))
  | [], [], _, _, _, _, h => h
  | v :: vs, m :: mid, pre, post, w, hl, h => by
    have h1 := heap_setCell_same w b pre.length _ t v h
    have e : ((pre ++ (m :: mid) ++ post).toArray.setIfInBounds pre.length v) = ((pre ++ [v]) ++ mid ++ post).toArray := by
      rw [List.setIfInBounds_toArray, List.append_assoc, List.set_append_right _ _ (Nat.le_refl _), Nat.sub_self]
      simp
    rw [e] at h1
    have := heap_setCells_part vs mid (pre ++ [v]) post _ (by simpa using hl) h1
    rw [List.length_append, List.length_singleton] at this
    rw [World.setCells]
    simpa using this

theorem IN.turn (h : IN T B d w0 w) {b' : Nat} {B' : Best} (hk : ∀ k, k ≠ b' → w'.heap[k]? = w.heap[k]?) (hb : Below T w0 w') (hs : w.heap.size ≤ w'.heap.size) (h0 : w'.heap[T]? = some (.cells B'.bs.toArray 74 (0, 0))) (h1 : w'.heap[T + 1]? = some (.cells B'.ds.toArray 75 (0, 0))) (hT : b' = T ∨ b' = T + 1) : IN T B' d w0 w' := by
  obtain ⟨c0, p0, q0⟩ := h.r0
  obtain ⟨c1, p1, q1⟩ := h.r1
  exact ⟨hb, Nat.le_trans h.size hs, h0, h1, (hk _ (by omega)).trans h.d, ⟨c0, (hk _ (by omega)).trans p0, q0⟩, ⟨c1, (hk _ (by omega)).trans p1, q1⟩⟩

theorem IN.set0 (h : IN T B d w0 w) (j : Int) : IN T { B with b0 := j } d w0 (w.setCell ⟨T, 0, none⟩ (.int .i64 j)) :=
  h.turn (b' := T) (fun k hk => Below.heap_setCell _ _ _ _ hk) (h.below.setCell (Nat.le_refl _) _) (by simp [World.setCell]) (heap_setCell_same w T 0 _ 74 _ h.b) ((Below.heap_setCell _ _ _ _ (show T + 1 ≠ T by omega)).trans h.ds) (.inl rfl)

theorem IN.set1 (h : IN T B d w0 w) (j : Int) : IN T { B with b1 := j } d w0 (w.setCell ⟨T, 1, none⟩ (.int .i64 j)) :=
  h.turn (b' := T) (fun k hk => Below.heap_setCell _ _ _ _ hk) (h.below.setCell (Nat.le_refl _) _) (by simp [World.setCell]) (heap_setCell_same w T 1 _ 74 _ h.b) ((Below.heap_setCell _ _ _ _ (show T + 1 ≠ T by omega)).trans h.ds) (.inl rfl)

theorem IN.put0 (h : IN T B d w0 w) (hB : B.ok) {x : List UInt8} (hx : x.length = 20) : IN T { B with d0 := x } d w0 (w.setCells (T + 1) 0 (x.map cell)) := by
  refine h.turn (b' := T + 1) (fun k hk => heap_setCells_ne hk _ _ _) (Below.setCells (by omega) _ _ _ h.below) (by rw [size_setCells]; exact Nat.le_refl _) ((heap_setCells_ne (by omega) _ _ _).trans h.b) ?_ (.inr rfl)
  have := heap_setCells_part (b := T + 1) (t := 75) (x.map cell) (B.d0.map cell) [] (B.d1.map cell) w (by simp [hx, hB.1]) h.ds
  exact this

theorem IN.put1 (h : IN T B d w0 w) (hB : B.ok) {x : List UInt8} (hx : x.length = 20) : IN T { B with d1 := x } d w0 (w.setCells (T + 1) 20 (x.map cell)) := by
  refine h.turn (b' := T + 1) (fun k hk => heap_setCells_ne hk _ _ _) (Below.setCells (by omega) _ _ _ h.below) (by rw [size_setCells]; exact Nat.le_refl _) ((heap_setCells_ne (by omega) _ _ _).trans h.b) ?_ (.inr rfl)
  have := heap_setCells_part (b := T + 1) (t := 75) (x.map cell) (B.d1.map cell) (B.d0.map cell) [] w (by simp [hx, hB.2]) (by simpa [Best.ds] using h.ds)
  rw [List.length_map, hB.1] at this
  simpa [Best.ds] using this

theorem IN.l0 (h : IN T B d w0 w) : w.rangeAt (T + 1) 0 (B.d0.map cell) := fun j v hv => by
  have hj := (List.getElem?_eq_some_iff.1 hv).1
  refine rangeAt_of h.ds j v ?_
  unfold Best.ds
  rw [List.getElem?_append_left hj]; exact hv

theorem IN.l1 (h : IN T B d w0 w) (hB : B.ok) : w.rangeAt (T + 1) 20 (B.d1.map cell) := fun j v hv => by
  have := rangeAt_of h.ds (20 + j) v (by
    unfold Best.ds
    rw [List.getElem?_append_right (by simp [hB.1])]
    simpa [hB.1] using hv)
  rwa [Nat.zero_add] at this

theorem IN.st33 (h : IN T B d w0 w) (o : Nat) (ho : o + 20 ≤ 40) (hB : B.ok) {x : List UInt8} (hx : x.length = 20) : (vst 33 ⟨T + 1, o, none⟩ (addrV x)).run Try.prog w = .ok () (w.setCells (T + 1) o (x.map cell)) := by
  refine stV_of (by rw [Try.size33]; simp [hx]) (fun j hj => ?_) (addr_one x)
  have hj' : j < 20 := by simpa [hx] using hj
  have := there_of h.ds (n := 40) (by simp [ds_len hB]) (o + j) (by omega)
  simpa using this

theorem IN.start (T : Nat) (B : Best) (d : List UInt8) (w : World) (hT : T = w.heap.size) (z0 z1 : Array Value) (h0 : z0.size = 2) (h1 : z1.size = 40) :
    IN T B d w (((((w.alloc (.cells B.bs.toArray 74)).alloc (.cells B.ds.toArray 75)).alloc (.cells (d.map cell).toArray 33)).alloc (.cells z0 74)).alloc (.cells z1 75)) := by
  subst hT
  have push : ∀ (w1 : World) (o : Obj) (k : Nat), k < w1.heap.size → (w1.alloc o).heap[k]? = w1.heap[k]? := fun w1 o k hk => Below.heap_alloc w1 o k hk
  have sz : ∀ (w1 : World) (o : Obj), (w1.alloc o).heap.size = w1.heap.size + 1 := fun w1 o => by simp
  generalize hw1 : w.alloc (.cells B.bs.toArray 74) = w1
  have s1 : w1.heap.size = w.heap.size + 1 := by rw [← hw1]; exact sz _ _
  have e1 : w1.heap[w.heap.size]? = some (.cells B.bs.toArray 74 (0, 0)) := by rw [← hw1]; exact heap_alloc_new _ _
  have b1 : Below w.heap.size w w1 := by rw [← hw1]; exact (Below.refl _ _).alloc (Nat.le_refl _) _
  generalize hw2 : w1.alloc (.cells B.ds.toArray 75) = w2
  have s2 : w2.heap.size = w.heap.size + 2 := by rw [← hw2, sz, s1]
  have e2 : w2.heap[w.heap.size + 1]? = some (.cells B.ds.toArray 75 (0, 0)) := by rw [← hw2, ← s1]; exact heap_alloc_new _ _
  have b2 : Below w.heap.size w w2 := by rw [← hw2]; exact b1.alloc (by omega) _
  have k2 : ∀ k, k < w.heap.size + 1 → w2.heap[k]? = w1.heap[k]? := fun k hk => by rw [← hw2]; exact push _ _ _ (by omega)
  generalize hw3 : w2.alloc (.cells (d.map cell).toArray 33) = w3
  have s3 : w3.heap.size = w.heap.size + 3 := by rw [← hw3, sz, s2]
  have e3 : w3.heap[w.heap.size + 2]? = some (.cells (d.map cell).toArray 33 (0, 0)) := by rw [← hw3, ← s2]; exact heap_alloc_new _ _
  have b3 : Below w.heap.size w w3 := by rw [← hw3]; exact b2.alloc (by omega) _
  have k3 : ∀ k, k < w.heap.size + 2 → w3.heap[k]? = w2.heap[k]? := fun k hk => by rw [← hw3]; exact push _ _ _ (by omega)
  generalize hw4 : w3.alloc (.cells z0 74) = w4
  have s4 : w4.heap.size = w.heap.size + 4 := by rw [← hw4, sz, s3]
  have e4 : w4.heap[w.heap.size + 3]? = some (.cells z0 74 (0, 0)) := by rw [← hw4, ← s3]; exact heap_alloc_new _ _
  have b4 : Below w.heap.size w w4 := by rw [← hw4]; exact b3.alloc (by omega) _
  have k4 : ∀ k, k < w.heap.size + 3 → w4.heap[k]? = w3.heap[k]? := fun k hk => by rw [← hw4]; exact push _ _ _ (by omega)
  generalize hw5 : w4.alloc (.cells z1 75) = w5
  have s5 : w5.heap.size = w.heap.size + 5 := by rw [← hw5, sz, s4]
  have e5 : w5.heap[w.heap.size + 4]? = some (.cells z1 75 (0, 0)) := by rw [← hw5, ← s4]; exact heap_alloc_new _ _
  have b5 : Below w.heap.size w w5 := by rw [← hw5]; exact b4.alloc (by omega) _
  have k5 : ∀ k, k < w.heap.size + 4 → w5.heap[k]? = w4.heap[k]? := fun k hk => by rw [← hw5]; exact push _ _ _ (by omega)
  refine ⟨b5, by omega, ?_, ?_, ?_, ⟨z0, (k5 _ (by omega)).trans e4, h0⟩, ⟨z1, e5, h1⟩⟩
  · exact (k5 _ (by omega)).trans ((k4 _ (by omega)).trans ((k3 _ (by omega)).trans ((k2 _ (by omega)).trans e1)))
  · exact (k5 _ (by omega)).trans ((k4 _ (by omega)).trans ((k3 _ (by omega)).trans e2))
  · exact (k5 _ (by omega)).trans ((k4 _ (by omega)).trans e3)
end

theorem viaW {H P : World → Prop} {G : Prop} (f : (∀ w, H w → P w) → G) (x : ∀ w, H w → P w) : G := f x

/-- Forty bytes of nothing. -/
abbrev z40 : Array Value := #[Value.int .u8 0, Value.int .u8 0, Value.int .u8 0, Value.int .u8 0, Value.int .u8 0, Value.int .u8 0, Value.int .u8 0, Value.int .u8 0, Value.int .u8 0, Value.int .u8 0, Value.int .u8 0, Value.int .u8 0, Value.int .u8 0, Value.int .u8 0, Value.int .u8 0, Value.int .u8 0, Value.int .u8 0, Value.int .u8 0, Value.int .u8 0, Value.int .u8 0, Value.int .u8 0, Value.int .u8 0, Value.int .u8 0, Value.int .u8 0, Value.int .u8 0, Value.int .u8 0, Value.int .u8 0, Value.int .u8 0, Value.int .u8 0, Value.int .u8 0, Value.int .u8 0, Value.int .u8 0, Value.int .u8 0, Value.int .u8 0, Value.int .u8 0, Value.int .u8 0, Value.int .u8 0, Value.int .u8 0, Value.int .u8 0, Value.int .u8 0]
abbrev z2 : Array Value := #[Value.int .i64 0, Value.int .i64 0]

attribute [local go_sem ↓] ld33 st33 ld74 ld75 st74 st75

set_option maxHeartbeats 2000000 in
set_option maxRecDepth 100000 in
/-- 'zzInsertNearest'. -/
theorem ins_zz (B : Best) (hB : B.ok) (j : Int) (d : List UInt8) (hd : d.length = 20) (w : World) :
    Calls Try.prog 40 #[aggV B.bs, aggV B.ds, .int .i64 j, addrV d] w fun e w' => e = .returned (.tuple #[aggV (ins B j d).bs, aggV (ins B j d).ds]) ∧ Below w.heap.size w w' := by
  obtain ⟨T, hT⟩ : ∃ T, T = w.heap.size := ⟨_, rfl⟩
  rw [← hT]
  unfold addrV aggV
  go_enter Try.func40, Try.ntmps40
  go_wp2_with fail
  have I0 : Hid (IN T B d w (((((w.alloc (.cells B.bs.toArray 74)).alloc (.cells B.ds.toArray 75)).alloc (.cells (d.map cell).toArray 33)).alloc (.cells z2 74)).alloc (.cells z40 75))) := IN.start T B d w hT z2 z40 rfl rfl
  rw [← hT]
  clear hT
  generalize (((((w.alloc (.cells B.bs.toArray 74)).alloc (.cells B.ds.toArray 75)).alloc (.cells (d.map cell).toArray 33)).alloc (.cells z2 74)).alloc (.cells z40 75)) = w1 at I0 ⊢
  rw [show T + 1 + 1 + 1 + 1 = T + 4 by omega, show T + 1 + 1 + 1 = T + 3 by omega, show T + 1 + 1 = T + 2 by omega]
  go_loopw [10] (fun vp wr => ∃ p : Nat, p ≤ 2 ∧ vp = .int .i64 p ∧ Hid (IN T B d w wr) ∧ Hid ((0 < p → ¬ (B.b0 < 0 ∨ lessB d B.d0 = true)) ∧ (1 < p → ¬ (B.b1 < 0 ∨ lessB d B.d1 = true)))) (fun vp _ => 3 - (intOf vp).toNat)
  case atStart => exact ⟨0, by omega, rfl, I0, (fun h => by omega), (fun h => by omega)⟩
  case round =>
    obtain ⟨p, hp, rfl, IK, HP⟩ := hrel
    clear I0
    have ldd : ∀ q, (vld 33 ⟨T + 2, 0, none⟩).run Try.prog (wr.drewN q) = .ok (addrV d) (wr.drewN q) := fun q => load33 (w := wr.drewN q) hd (rangeAt_of IK.out.d)
    rcases (show p = 0 ∨ p = 1 ∨ p = 2 by omega) with rfl | rfl | rfl
    · have b0c : wr.cell? ⟨T, 0, none⟩ = some (.int .i64 B.b0) := rangeAt_of IK.out.b 0 _ rfl
      have ld0 : ∀ q, (vld 33 ⟨T + 1, 0, none⟩).run Try.prog (wr.drewN q) = .ok (addrV B.d0) (wr.drewN q) := fun q => load33 (w := wr.drewN q) hB.1 IK.out.l0
      by_cases hneg : B.b0 < 0
      · have hd1 : decide (0 ≤ B.b0) = false := by simp; omega
        have HI : Hid (ins B j d = ⟨j, B.b0, d, B.d0⟩) := by unfold ins; exact if_pos (.inl hneg)
        go_wp2_with fail
        go_quiet (fail)
        have IL : Hid (IN T B d w (wr.drewN nq)) := IK.out.later ⟨rfl, rfl, rfl, Nat.le_refl _, fun _ _ => rfl⟩
        clear IK ldd ld0 b0c HP
        generalize wr.drewN nq = w3 at IL ⊢
        go_wp2_with fail
        go_loopw [11] (fun vs wk => ∃ (s : Nat) (B' : Best), vs = .int .i64 s ∧ Hid (IN T B' d w wk) ∧ Hid ((s = 1 ∧ B' = B) ∨ (s = 0 ∧ B' = ⟨B.b0, B.b0, B.d0, B.d0⟩))) (fun vs _ => (intOf vs).toNat)
        case atStart => exact ⟨1, B, rfl, IL, .inl ⟨rfl, rfl⟩⟩
        case round =>
          obtain ⟨s, B', rfl, IM, HS⟩ := hrel
          clear IL
          rcases HS.out with ⟨rfl, hB'⟩ | ⟨rfl, hB'⟩
          · rw [hB'] at IM
            have e0 : wr.cell? ⟨T, 0, none⟩ = some (.int .i64 B.b0) := rangeAt_of IM.out.b 0 _ rfl
            have e1 : wr.cell? ⟨T, 1, none⟩ = some (.int .i64 B.b1) := rangeAt_of IM.out.b 1 _ rfl
            have e2 : wr.frozen? ⟨T, 1, none⟩ = false := by simp [World.frozen?, IM.out.b]
            have I5 := IM.out.set1 B.b0
            have e3 := load33 hB.1 I5.l0
            have e4 := I5.st33 20 (by omega) hB hB.1
            have I6 : Hid _ := I5.put1 hB hB.1
            clear I5 IM HS hB'
            go_wp2_with fail
            go_roundw
            case rel => exact ⟨0, _, rfl, I6, .inr ⟨rfl, rfl⟩⟩
            case measure => simp [intOf]
          · rw [hB'] at IM
            have e1 : wr.cell? ⟨T, 0, none⟩ = some (.int .i64 B.b0) := rangeAt_of IM.out.b 0 _ rfl
            have e2 : wr.frozen? ⟨T, 0, none⟩ = false := by simp [World.frozen?, IM.out.b]
            have I5 := IM.out.set0 j
            have e3 := load33 hd (rangeAt_of I5.d)
            have e4 := I5.st33 0 (by omega) ⟨hB.1, hB.1⟩ hd
            have IZ : Hid _ := I5.put0 ⟨hB.1, hB.1⟩ hd
            have hZ : Best.ok ⟨j, B.b0, d, B.d0⟩ := ⟨hd, hB.1⟩
            clear I5 IM HS hB'
            go_wp2_with fail
            clear e1 e2 e3 e4
            generalize (wr.setCell ⟨T, 0, none⟩ (.int .i64 j)).setCells (T + 1) 0 (d.map cell) = wz at IZ ⊢
            obtain ⟨l74, l75, wa, wb, wc, wd, f1, f2, f3, f4, f5, f6, ⟨f7, f8, f9⟩, f10, f11, f12⟩ := IZ.out.out hZ
            have l74' : (vld 74 ⟨T, 0, none⟩).run Try.prog wz.drew = .ok _ wz.drew := l74 1
            have l75' : (vld 75 ⟨T + 1, 0, none⟩).run Try.prog wz.drew = .ok _ wz.drew := l75 1
            have HBc : Hid (Below T w wc) := f9
            have HBd : Hid (Below T w wd) := f12
            clear IZ f9 f12 l74 l75
            go_wp2_with fail
            go_region
            all_goals
              go_wp2_with fail
              first
                | (refine bodyPost_ret (results_vld2 rfl rfl rfl f7 f8) rfl ?_; exact ⟨by rw [HI.out]; rfl, HBc.out⟩)
                | (refine bodyPost_ret (results_vld2 rfl rfl rfl f10 f11) rfl ?_; exact ⟨by rw [HI.out]; rfl, HBd.out⟩)

      · have hd1 : decide (0 ≤ B.b0) = true := by simp; omega
        have c52 := less_zz d B.d0 hd hB.1 wr.drew
        have ldd' : (vld 33 ⟨T + 2, 0, none⟩).run Try.prog wr.drew = .ok (addrV d) wr.drew := ldd 1
        have ld0' : (vld 33 ⟨T + 1, 0, none⟩).run Try.prog wr.drew = .ok (addrV B.d0) wr.drew := ld0 1
        cases hls : lessB d B.d0 with
        | true =>
          rw [hls] at c52
          have HI : Hid (ins B j d = ⟨j, B.b0, d, B.d0⟩) := by unfold ins; exact if_pos (.inr hls)
          go_wp2_with fail
          refine' @viaW (fun w3 => Hid (IN T B d w w3)) _ _ ?leafF ?leafX
          case leafF =>
            intro hX
            go_region_with (go_at_call 52; refine c52.mono ?_; rintro e w3 ⟨rfl, hb3⟩; have IL : Hid (IN T B d w w3) := (IK.out.later ((Below.refl _ _).drew)).later hb3; clear hb3)
            all_goals exact hX _ IL
          intro w3 IL
          clear IK ldd ld0 ldd' ld0' b0c HP c52
          go_wp2_with fail
          go_loopw [11] (fun vs wk => ∃ (s : Nat) (B' : Best), vs = .int .i64 s ∧ Hid (IN T B' d w wk) ∧ Hid ((s = 1 ∧ B' = B) ∨ (s = 0 ∧ B' = ⟨B.b0, B.b0, B.d0, B.d0⟩))) (fun vs _ => (intOf vs).toNat)
          case atStart => exact ⟨1, B, rfl, IL, .inl ⟨rfl, rfl⟩⟩
          case round =>
            obtain ⟨s, B', rfl, IM, HS⟩ := hrel
            clear IL
            rcases HS.out with ⟨rfl, hB'⟩ | ⟨rfl, hB'⟩
            · rw [hB'] at IM
              have e0 : wr.cell? ⟨T, 0, none⟩ = some (.int .i64 B.b0) := rangeAt_of IM.out.b 0 _ rfl
              have e1 : wr.cell? ⟨T, 1, none⟩ = some (.int .i64 B.b1) := rangeAt_of IM.out.b 1 _ rfl
              have e2 : wr.frozen? ⟨T, 1, none⟩ = false := by simp [World.frozen?, IM.out.b]
              have I5 := IM.out.set1 B.b0
              have e3 := load33 hB.1 I5.l0
              have e4 := I5.st33 20 (by omega) hB hB.1
              have I6 : Hid _ := I5.put1 hB hB.1
              clear I5 IM HS hB'
              go_wp2_with fail
              go_roundw
              case rel => exact ⟨0, _, rfl, I6, .inr ⟨rfl, rfl⟩⟩
              case measure => simp [intOf]
            · rw [hB'] at IM
              have e1 : wr.cell? ⟨T, 0, none⟩ = some (.int .i64 B.b0) := rangeAt_of IM.out.b 0 _ rfl
              have e2 : wr.frozen? ⟨T, 0, none⟩ = false := by simp [World.frozen?, IM.out.b]
              have I5 := IM.out.set0 j
              have e3 := load33 hd (rangeAt_of I5.d)
              have e4 := I5.st33 0 (by omega) ⟨hB.1, hB.1⟩ hd
              have IZ : Hid _ := I5.put0 ⟨hB.1, hB.1⟩ hd
              have hZ : Best.ok ⟨j, B.b0, d, B.d0⟩ := ⟨hd, hB.1⟩
              clear I5 IM HS hB'
              go_wp2_with fail
              clear e1 e2 e3 e4
              generalize (wr.setCell ⟨T, 0, none⟩ (.int .i64 j)).setCells (T + 1) 0 (d.map cell) = wz at IZ ⊢
              obtain ⟨l74, l75, wa, wb, wc, wd, f1, f2, f3, f4, f5, f6, ⟨f7, f8, f9⟩, f10, f11, f12⟩ := IZ.out.out hZ
              have l74' : (vld 74 ⟨T, 0, none⟩).run Try.prog wz.drew = .ok _ wz.drew := l74 1
              have l75' : (vld 75 ⟨T + 1, 0, none⟩).run Try.prog wz.drew = .ok _ wz.drew := l75 1
              have HBc : Hid (Below T w wc) := f9
              have HBd : Hid (Below T w wd) := f12
              clear IZ f9 f12 l74 l75
              go_wp2_with fail
              go_region
              all_goals
                go_wp2_with fail
                first
                  | (refine bodyPost_ret (results_vld2 rfl rfl rfl f7 f8) rfl ?_; exact ⟨by rw [HI.out]; rfl, HBc.out⟩)
                  | (refine bodyPost_ret (results_vld2 rfl rfl rfl f10 f11) rfl ?_; exact ⟨by rw [HI.out]; rfl, HBd.out⟩)

        | false =>
          rw [hls] at c52
          have HN : Hid (¬ (B.b0 < 0 ∨ lessB d B.d0 = true)) := fun h => by rcases h with h | h; exact hneg h; rw [hls] at h; cases h
          clear hls
          go_wp2_with fail
          refine' @viaW (fun w3 => Hid (IN T B d w w3)) _ _ ?leafG ?leafY
          case leafG =>
            intro hX
            go_region_with (go_at_call 52; refine c52.mono ?_; rintro e w3 ⟨rfl, hb3⟩; have IL : Hid (IN T B d w w3) := (IK.out.later ((Below.refl _ _).drew)).later hb3; clear hb3)
            all_goals exact hX _ IL
          intro w3 IL
          clear IK ldd ld0 ldd' ld0' b0c HP c52
          go_wp2_with fail
          go_roundw
          case rel => exact ⟨1, by omega, rfl, IL, (fun _ h => by rcases h with h | h; exact HN.out (.inl h); cases h), (fun h => by omega)⟩
          case measure => simp [intOf]
    · have b1c : wr.cell? ⟨T, 1, none⟩ = some (.int .i64 B.b1) := rangeAt_of IK.out.b 1 _ rfl
      have ld1 : ∀ q, (vld 33 ⟨T + 1, 20, none⟩).run Try.prog (wr.drewN q) = .ok (addrV B.d1) (wr.drewN q) := fun q => load33 (w := wr.drewN q) hB.2 (IK.out.l1 hB)
      have HN0 : Hid (¬ (B.b0 < 0 ∨ lessB d B.d0 = true)) := HP.out.1 (by omega)
      by_cases hneg : B.b1 < 0
      · have hd1 : decide (0 ≤ B.b1) = false := by simp; omega
        have HI : Hid (ins B j d = ⟨B.b0, j, B.d0, d⟩) := by unfold ins; rw [if_neg HN0.out]; exact if_pos (.inl hneg)
        go_wp2_with fail
        go_quiet (fail)
        have IL : Hid (IN T B d w (wr.drewN nq)) := IK.out.later ⟨rfl, rfl, rfl, Nat.le_refl _, fun _ _ => rfl⟩
        clear IK ldd ld1 b1c HP
        generalize wr.drewN nq = w3 at IL ⊢
        go_wp2_with fail
        go_loopw [11] (fun vs wk => vs = .int .i64 1 ∧ Hid (IN T B d w wk)) (fun vs _ => 0)
        case atStart => exact ⟨rfl, IL⟩
        case round =>
          obtain ⟨rfl, IM⟩ := hrel
          clear IL
          have e1 : wr.cell? ⟨T, 1, none⟩ = some (.int .i64 B.b1) := rangeAt_of IM.out.b 1 _ rfl
          have e2 : wr.frozen? ⟨T, 1, none⟩ = false := by simp [World.frozen?, IM.out.b]
          have I5 := IM.out.set1 j
          have e3 := load33 hd (rangeAt_of I5.d)
          have e4 := I5.st33 20 (by omega) hB hd
          have IZ : Hid _ := I5.put1 hB hd
          have hZ : Best.ok ⟨B.b0, j, B.d0, d⟩ := ⟨hB.1, hd⟩
          clear I5 IM
          go_wp2_with fail
          clear e1 e2 e3 e4
          generalize (wr.setCell ⟨T, 1, none⟩ (.int .i64 j)).setCells (T + 1) 20 (d.map cell) = wz at IZ ⊢
          obtain ⟨l74, l75, wa, wb, wc, wd, f1, f2, f3, f4, f5, f6, ⟨f7, f8, f9⟩, f10, f11, f12⟩ := IZ.out.out hZ
          have l74' : (vld 74 ⟨T, 0, none⟩).run Try.prog wz.drew = .ok _ wz.drew := l74 1
          have l75' : (vld 75 ⟨T + 1, 0, none⟩).run Try.prog wz.drew = .ok _ wz.drew := l75 1
          have HBc : Hid (Below T w wc) := f9
          have HBd : Hid (Below T w wd) := f12
          clear IZ f9 f12 l74 l75
          go_wp2_with fail
          go_region
          all_goals
            go_wp2_with fail
            first
              | (refine bodyPost_ret (results_vld2 rfl rfl rfl f7 f8) rfl ?_; exact ⟨by rw [HI.out]; rfl, HBc.out⟩)
              | (refine bodyPost_ret (results_vld2 rfl rfl rfl f10 f11) rfl ?_; exact ⟨by rw [HI.out]; rfl, HBd.out⟩)

      · have hd1 : decide (0 ≤ B.b1) = true := by simp; omega
        have c52 := less_zz d B.d1 hd hB.2 wr.drew
        have ldd' : (vld 33 ⟨T + 2, 0, none⟩).run Try.prog wr.drew = .ok (addrV d) wr.drew := ldd 1
        have ld1' : (vld 33 ⟨T + 1, 20, none⟩).run Try.prog wr.drew = .ok (addrV B.d1) wr.drew := ld1 1
        cases hls : lessB d B.d1 with
        | true =>
          rw [hls] at c52
          have HI : Hid (ins B j d = ⟨B.b0, j, B.d0, d⟩) := by unfold ins; rw [if_neg HN0.out]; exact if_pos (.inr hls)
          go_wp2_with fail
          refine' @viaW (fun w3 => Hid (IN T B d w w3)) _ _ ?leafH ?leafZ
          case leafH =>
            intro hX
            go_region_with (go_at_call 52; refine c52.mono ?_; rintro e w3 ⟨rfl, hb3⟩; have IL : Hid (IN T B d w w3) := (IK.out.later ((Below.refl _ _).drew)).later hb3; clear hb3)
            all_goals exact hX _ IL
          intro w3 IL
          clear IK ldd ld1 ldd' ld1' b1c HP c52
          go_wp2_with fail
          go_loopw [11] (fun vs wk => vs = .int .i64 1 ∧ Hid (IN T B d w wk)) (fun vs _ => 0)
          case atStart => exact ⟨rfl, IL⟩
          case round =>
            obtain ⟨rfl, IM⟩ := hrel
            clear IL
            have e1 : wr.cell? ⟨T, 1, none⟩ = some (.int .i64 B.b1) := rangeAt_of IM.out.b 1 _ rfl
            have e2 : wr.frozen? ⟨T, 1, none⟩ = false := by simp [World.frozen?, IM.out.b]
            have I5 := IM.out.set1 j
            have e3 := load33 hd (rangeAt_of I5.d)
            have e4 := I5.st33 20 (by omega) hB hd
            have IZ : Hid _ := I5.put1 hB hd
            have hZ : Best.ok ⟨B.b0, j, B.d0, d⟩ := ⟨hB.1, hd⟩
            clear I5 IM
            go_wp2_with fail
            clear e1 e2 e3 e4
            generalize (wr.setCell ⟨T, 1, none⟩ (.int .i64 j)).setCells (T + 1) 20 (d.map cell) = wz at IZ ⊢
            obtain ⟨l74, l75, wa, wb, wc, wd, f1, f2, f3, f4, f5, f6, ⟨f7, f8, f9⟩, f10, f11, f12⟩ := IZ.out.out hZ
            have l74' : (vld 74 ⟨T, 0, none⟩).run Try.prog wz.drew = .ok _ wz.drew := l74 1
            have l75' : (vld 75 ⟨T + 1, 0, none⟩).run Try.prog wz.drew = .ok _ wz.drew := l75 1
            have HBc : Hid (Below T w wc) := f9
            have HBd : Hid (Below T w wd) := f12
            clear IZ f9 f12 l74 l75
            go_wp2_with fail
            go_region
            all_goals
              go_wp2_with fail
              first
                | (refine bodyPost_ret (results_vld2 rfl rfl rfl f7 f8) rfl ?_; exact ⟨by rw [HI.out]; rfl, HBc.out⟩)
                | (refine bodyPost_ret (results_vld2 rfl rfl rfl f10 f11) rfl ?_; exact ⟨by rw [HI.out]; rfl, HBd.out⟩)

        | false =>
          rw [hls] at c52
          have HN : Hid (¬ (B.b1 < 0 ∨ lessB d B.d1 = true)) := fun h => by rcases h with h | h; exact hneg h; rw [hls] at h; cases h
          clear hls
          go_wp2_with fail
          refine' @viaW (fun w3 => Hid (IN T B d w w3)) _ _ ?leafI ?leafW
          case leafI =>
            intro hX
            go_region_with (go_at_call 52; refine c52.mono ?_; rintro e w3 ⟨rfl, hb3⟩; have IL : Hid (IN T B d w w3) := (IK.out.later ((Below.refl _ _).drew)).later hb3; clear hb3)
            all_goals exact hX _ IL
          intro w3 IL
          clear IK ldd ld1 ldd' ld1' b1c HP c52
          go_wp2_with fail
          go_roundw
          case rel => exact ⟨2, by omega, rfl, IL, (fun _ => HN0.out), (fun _ h => by rcases h with h | h; exact HN.out (.inl h); cases h)⟩
          case measure => simp [intOf]
    · have HI : Hid (ins B j d = B) := by show _ = _; unfold ins; rw [if_neg (HP.out.1 (by omega)), if_neg (HP.out.2 (by omega))]
      go_wp2_with fail
      go_quiet (fail)
      have IZ : Hid (IN T B d w (wr.drewN nq)) := IK.out.later ⟨rfl, rfl, rfl, Nat.le_refl _, fun _ _ => rfl⟩
      have hZ := hB
      clear IK ldd HP
      generalize wr.drewN nq = wz at IZ ⊢
      go_wp2_with fail
      obtain ⟨l74, l75, wa, wb, wc, wd, f1, f2, f3, f4, f5, f6, ⟨f7, f8, f9⟩, f10, f11, f12⟩ := IZ.out.out hZ
      have l74' : (vld 74 ⟨T, 0, none⟩).run Try.prog wz.drew = .ok _ wz.drew := l74 1
      have l75' : (vld 75 ⟨T + 1, 0, none⟩).run Try.prog wz.drew = .ok _ wz.drew := l75 1
      have HBc : Hid (Below T w wc) := f9
      have HBd : Hid (Below T w wd) := f12
      clear IZ f9 f12 l74 l75
      go_wp2_with fail
      go_region
      all_goals
        go_wp2_with fail
        first
          | (refine bodyPost_ret (results_vld2 rfl rfl rfl f7 f8) rfl ?_; exact ⟨by rw [HI.out]; rfl, HBc.out⟩)
          | (refine bodyPost_ret (results_vld2 rfl rfl rfl f10 f11) rfl ?_; exact ⟨by rw [HI.out]; rfl, HBd.out⟩)
end Go.Proofs.Qxb6601491a
