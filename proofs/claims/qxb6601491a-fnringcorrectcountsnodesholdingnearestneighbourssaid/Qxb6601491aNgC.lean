/-
  zzLastIndex, zzHasEdgeTo, zzInList: walked.
-/
import Derived.Test.Qxb6601491aNgL
namespace Go.Proofs.Qxb6601491a
open Go.RowKit
open Go.Extern.Stop (cell)

attribute [local go_sem ↓] ld33
attribute [local go_sem] guard33

/-- The last of the first n nodes that bears the address, or -1. -/
def lastIn (D : Nat → NodeD) (x : List UInt8) : Nat → Int
  | 0 => -1
  | k + 1 => if (D k).addr == x then (k : Nat) else lastIn D x k

set_option maxHeartbeats 1000000 in
theorem last_zz (a : Option Addr) (n cap : Nat) (D : Nat → NodeD) (vs : Nat → Value) (x : List UInt8) (hx : x.length = 20) (w : World) (hn : n ≤ 4096) (hA : NodesAt w a n D vs) :
    Calls Try.prog 14 #[.slice a n cap, addrV x] w fun e w' => e = .returned (.int .i64 (lastIn D x n)) ∧ Below w.heap.size w w' := by
  have HA : Hid (NodesAt w a n D vs) := hA
  clear hA
  have hr0 := rangeAt_alloc_new w (x.map cell) 33
  have hb0 : Below w.heap.size w (w.alloc (.cells (x.map cell).toArray 33)) := (Below.refl _ _).alloc (Nat.le_refl _) _
  obtain ⟨B0, hB0⟩ : ∃ B0, B0 = w.heap.size := ⟨_, rfl⟩
  have hN0 := NodesAt.below HA.out hb0
  rw [← hB0] at hr0 hb0 ⊢
  unfold addrV
  go_enter Try.func14, Try.ntmps14
  go_wp2
  rw [← hB0]
  clear hB0
  generalize w.alloc (Obj.cells (x.map cell).toArray 33) = w1 at hr0 hb0 hN0 ⊢
  have HN : Hid (NodesAt w1 a n D vs) := hN0
  have HB : Hid (Below B0 w w1) := hb0
  have hl2 : ∀ q, (vld 33 ⟨B0, 0, none⟩).run Try.prog (w1.drewN q) = .ok (addrV x) (w1.drewN q) := fun q => load33 (w := w1.drewN q) hx hr0
  have HL2 : Hid (∀ q, (vld 33 ⟨B0, 0, none⟩).run Try.prog (w1.drewN q) = .ok (addrV x) (w1.drewN q)) := hl2
  clear hN0 hb0 hr0 HA hl2
  go_loopw [5] (fun vj wr => ∃ (j q : Nat), j ≤ n ∧ vj = .int .i64 ((j : Int) - 1) ∧ Hid (wr = w1.drewN q) ∧ Hid (lastIn D x n = lastIn D x j)) (fun vj _ => (intOf vj + 1).toNat)
  case atStart => exact ⟨n, 0, Nat.le_refl _, rfl, rfl, rfl⟩
  case round =>
    obtain ⟨j, q, hj, rfl, HW, HL⟩ := hrel
    cases j with
    | zero =>
      go_wp2_with fail
      go_ret
      refine ⟨by rw [HL.out]; rfl, ?_⟩
      rw [HW.out]; exact HB.out.trans ⟨rfl, rfl, rfl, Nat.le_refl _, fun _ _ => rfl⟩
    | succ k =>
      rw [show ((k + 1 : Nat) : Int) - 1 = (k : Int) by omega]
      have hkn : k < n := by omega
      obtain ⟨blk, off, ha, hc⟩ := HN.out.at (by omega)
      obtain ⟨hl, hr, -⟩ := hc k (by omega)
      obtain ⟨hra, -, -⟩ := node_cells hl hr
      have hl1 : ∀ q', (vld 33 ⟨blk, off + k * 22, none⟩).run Try.prog (wr.drewN q') = .ok (addrV (D k).addr) (wr.drewN q') := fun q' => by
        rw [HW.out, World.drewN_drewN]; exact load33 (w := w1.drewN (q + q')) hl hra
      have hl2 : ∀ q', (vld 33 ⟨B0, 0, none⟩).run Try.prog (wr.drewN q') = .ok (addrV x) (wr.drewN q') := fun q' => by
        rw [HW.out, World.drewN_drewN]; exact HL2.out (q + q')
      have heq := eql33 hl hx
      rw [ha]
      clear ha hc hr hra
      have HS : Hid (lastIn D x (k + 1) = if (D k).addr == x then (k : Int) else lastIn D x k) := rfl
      generalize (D k).addr = y at hl hl1 heq HS
      cases hq : (y == x) with
      | true =>
        rw [hq] at HS heq
        go_wp2_with fail
        go_quiet (fail)
        go_wp2_with fail
        go_ret
        refine ⟨by rw [HL.out, HS.out]; rfl, ?_⟩
        rw [HW.out, World.drewN_drewN]; exact HB.out.trans ⟨rfl, rfl, rfl, Nat.le_refl _, fun _ _ => rfl⟩
      | false =>
        rw [hq] at HS heq
        go_wp2_with fail
        go_quiet (fail)
        go_wp2_with fail
        go_roundw
        case rel => exact ⟨k, q + nq, by omega, rfl, by show _ = _; rw [HW.out, World.drewN_drewN], by show _ = _; rw [HL.out, HS.out]; rfl⟩
        case measure => simp [intOf]

/-- Has a list of m edges one to the address (not a leaf one, where r)? -/
def hits (E : Nat → EdgeD) (x : List UInt8) (r : Bool) (k : Nat) : Bool := ((E k).addr == x) && (!r || !((E k).label == 2))
def hasTo (E : Nat → EdgeD) (x : List UInt8) (r : Bool) (m : Nat) : Bool := (List.range m).any (hits E x r)

set_option maxHeartbeats 1000000 in
theorem has_zz (v : Value) (m : Nat) (E : Nat → EdgeD) (x : List UInt8) (hx : x.length = 20) (r : Bool) (w : World) (hA : EdgesAt w v m E) :
    Calls Try.prog 38 #[v, addrV x, .bool r] w fun e w' => e = .returned (.bool (hasTo E x r m)) ∧ Below w.heap.size w w' := by
  have hr0 := rangeAt_alloc_new w (x.map cell) 33
  have hb0 : Below w.heap.size w (w.alloc (.cells (x.map cell).toArray 33)) := (Below.refl _ _).alloc (Nat.le_refl _) _
  obtain ⟨B0, hB0⟩ : ∃ B0, B0 = w.heap.size := ⟨_, rfl⟩
  have hN0 := EdgesAt.below hA hb0
  clear hA
  rw [← hB0] at hr0 hb0 ⊢
  obtain ⟨a, cap, rfl, -, hm, hE⟩ := hN0
  unfold maxLen at hm
  have HE : Hid (m = 0 ∨ ∃ blk off, a = some ⟨blk, off, none⟩ ∧ ∀ k, k < m → (E k).addr.length = 20 ∧ (w.alloc (Obj.cells (x.map cell).toArray 33)).rangeAt blk (off + k * 22) (edgeCells (E k))) := hE
  clear hE
  unfold addrV
  go_enter Try.func38, Try.ntmps38
  go_wp2
  rw [← hB0]
  clear hB0
  generalize w.alloc (Obj.cells (x.map cell).toArray 33) = w1 at hr0 hb0 HE ⊢
  have HB : Hid (Below B0 w w1) := hb0
  have HL2 : Hid (∀ q, (vld 33 ⟨B0, 0, none⟩).run Try.prog (w1.drewN q) = .ok (addrV x) (w1.drewN q)) := fun q => load33 (w := w1.drewN q) hx hr0
  clear hb0 hr0
  go_loopw [7] (fun vj wr => ∃ (j q : Nat), j ≤ m ∧ vj = .int .i64 j ∧ Hid (wr = w1.drewN q) ∧ Hid (∀ k, k < j → hits E x r k = false)) (fun vj _ => m - (intOf vj).toNat)
  case atStart => exact ⟨0, 0, Nat.zero_le _, rfl, rfl, fun k hk => absurd hk (Nat.not_lt_zero _)⟩
  case round =>
    obtain ⟨j, q, hj, rfl, HW, HN⟩ := hrel
    by_cases hlt : j < m
    · obtain ⟨blk, off, ha, hc⟩ : ∃ blk off, a = some ⟨blk, off, none⟩ ∧ ∀ k, k < m → (E k).addr.length = 20 ∧ w1.rangeAt blk (off + k * 22) (edgeCells (E k)) := by
        rcases HE.out with h | h
        · omega
        · exact h
      obtain ⟨hl, hr⟩ := hc j hlt
      obtain ⟨hra, hrl, -⟩ := edge_cells hl hr
      have hl1 : ∀ q', (vld 33 ⟨blk, off + j * 22, none⟩).run Try.prog (wr.drewN q') = .ok (addrV (E j).addr) (wr.drewN q') := fun q' => by
        rw [HW.out, World.drewN_drewN]; exact load33 (w := w1.drewN (q + q')) hl hra
      have hl2 : ∀ q', (vld 33 ⟨B0, 0, none⟩).run Try.prog (wr.drewN q') = .ok (addrV x) (wr.drewN q') := fun q' => by
        rw [HW.out, World.drewN_drewN]; exact HL2.out (q + q')
      have hcl : wr.cell? ⟨blk, off + j * 22 + 20, none⟩ = some (.int .u8 (E j).label) := by rw [HW.out]; exact hrl
      have heq := eql33 hl hx
      rw [ha]
      clear ha hc hr hra hrl
      have HY : Hid (hits E x r j = true → hasTo E x r m = true) := fun h => by
        unfold hasTo; rw [List.any_eq_true]; exact ⟨j, by simpa using hlt, h⟩
      have HN2 : Hid (hits E x r j = false → ∀ k, k < j + 1 → hits E x r k = false) := fun h k hk => by
        by_cases e : k = j
        · subst e; exact h
        · exact HN.out k (by omega)
      clear HN
      unfold hits at HY HN2
      generalize (E j).addr = y at hl hl1 heq HY HN2
      generalize (E j).label = lb at hcl HY HN2
      generalize hgo : ((y == x) && (!r || !(lb == 2))) = go at HY HN2
      cases hq : (y == x) <;> rw [hq] at heq hgo
      · simp only [Bool.false_and] at hgo
        subst hgo
        have H2 : Hid _ := HN2.out rfl
        clear HN2 HY
        go_wp2_with fail
        go_quiet (fail)
        go_wp2_with fail
        go_roundw
        case rel => exact ⟨j + 1, q + nq, by omega, by go_num, by show _ = _; rw [HW.out, World.drewN_drewN], H2⟩
        case measure => simp [intOf]; omega
      · cases r
        · simp only [Bool.true_and, Bool.not_false, Bool.true_or] at hgo
          subst hgo
          have H2 : Hid _ := HY.out rfl
          clear HN2 HY
          go_wp2_with fail
          go_quiet (fail)
          go_wp2_with fail
          go_ret
          refine ⟨by rw [H2.out]; rfl, ?_⟩
          rw [HW.out, World.drewN_drewN]; exact HB.out.trans ⟨rfl, rfl, rfl, Nat.le_refl _, fun _ _ => rfl⟩
        · simp only [Bool.true_and, Bool.not_true, Bool.false_or] at hgo
          by_cases hlb : lb = 2
          · subst hlb
            simp at hgo
            subst hgo
            have H2 : Hid _ := HN2.out rfl
            clear HN2 HY
            go_wp2_with fail
            go_quiet (fail)
            go_wp2_with fail
            go_roundw
            case rel => exact ⟨j + 1, q + nq, by omega, by go_num, by show _ = _; rw [HW.out, World.drewN_drewN], H2⟩
            case measure => simp [intOf]; omega
          · have hg1 : go = true := by rw [← hgo]; simp [hlb]
            subst hg1
            have H2 : Hid _ := HY.out rfl
            clear HN2 HY hgo
            go_wp2_with fail
            go_quiet (fail)
            go_wp2_with fail
            go_ret
            refine ⟨by rw [H2.out]; rfl, ?_⟩
            rw [HW.out, World.drewN_drewN]; exact HB.out.trans ⟨rfl, rfl, rfl, Nat.le_refl _, fun _ _ => rfl⟩
    · have hjm : j = m := by omega
      subst hjm
      have H2 : Hid (hasTo E x r j = false) := by
        show _ = _
        unfold hasTo
        rw [List.any_eq_false]
        intro k hk
        rw [HN.out k (by simpa using hk)]; simp
      clear HN
      go_wp2_with fail
      go_ret
      refine ⟨by rw [H2.out]; rfl, ?_⟩
      rw [HW.out]; exact HB.out.trans ⟨rfl, rfl, rfl, Nat.le_refl _, fun _ _ => rfl⟩

/-- A list of indices: nil where it is empty. -/
def IntsAt (w : World) (v : Value) (zs : List Int) : Prop :=
  (v = .slice none 0 0 ∧ zs = []) ∨ (zs ≠ [] ∧ zs.length ≤ maxLen ∧ ∃ blk cap, v = .slice (some ⟨blk, 0, none⟩) zs.length cap ∧ ∀ k (hk : k < zs.length), w.cell? ⟨blk, k, none⟩ = some (.int .i64 zs[k]))

/-- Is the number in the list? -/
def inB (zs : List Int) (x : Int) : Bool := zs.contains x

set_option maxHeartbeats 1000000 in
theorem in_zz (v : Value) (zs : List Int) (x : Int) (w : World) (hA : IntsAt w v zs) :
    Calls Try.prog 17 #[v, .int .i64 x] w fun e w' => e = .returned (.bool (inB zs x)) ∧ w' = w := by
  rcases hA with ⟨rfl, rfl⟩ | ⟨hne, hml, blk, cap, rfl, hc⟩
  · go_enter Try.func17, Try.ntmps17
    go_wp2
    refine wp_loop_rounds 1 ?_
    rw [rounds_succ]
    go_wp2
    go_ret
    exact ⟨rfl, rfl⟩
  · obtain ⟨m, hm⟩ : ∃ m, m = zs.length := ⟨_, rfl⟩
    have HC : Hid (∀ k (hk : k < zs.length), w.cell? ⟨blk, k, none⟩ = some (.int .i64 zs[k])) := hc
    have HM : Hid (m = zs.length) := hm
    rw [← hm] at hml ⊢
    unfold maxLen at hml
    clear hc hne hm
    go_enter Try.func17, Try.ntmps17
    go_wp2
    go_loop [5] (fun vj => ∃ (j : Nat), j ≤ m ∧ vj = .int .i64 j ∧ Hid (∀ k (hk : k < zs.length), k < j → zs[k] ≠ x)) (fun vj => m - (intOf vj).toNat)
    case atStart => exact ⟨0, Nat.zero_le _, rfl, fun k _ hk => absurd hk (Nat.not_lt_zero _)⟩
    case round =>
      obtain ⟨j, hj, rfl, HN⟩ := hrel
      by_cases hlt : j < m
      · have hjl : j < zs.length := by rw [← HM.out]; exact hlt
        have d := HC.out j hjl
        by_cases hq : zs[j] = x
        · have H2 : Hid (inB zs x = true) := by
            show zs.contains x = true
            rw [List.contains_iff_mem, ← hq]; exact List.getElem_mem _
          generalize zs[j] = z at d hq
          subst hq
          go_wp2_with fail
          go_ret
          exact ⟨by rw [H2.out]; rfl, rfl⟩
        · have HN2 : Hid (∀ k (hk : k < zs.length), k < j + 1 → zs[k] ≠ x) := fun k hk h => by
            by_cases e : k = j
            · subst e; exact hq
            · exact HN.out k hk (by omega)
          generalize zs[j] = z at d hq
          clear HN
          go_wp2_with fail
          go_round
          case rel => exact ⟨j + 1, by omega, by go_num, HN2⟩
          case measure => simp [intOf]; omega
      · have H2 : Hid (inB zs x = false) := by
          show zs.contains x = false
          rw [← Bool.not_eq_true, List.contains_iff_mem]
          intro hmem
          obtain ⟨k, hk, e⟩ := List.getElem_of_mem hmem
          exact HN.out k hk (by have := HM.out; omega) e
        clear HN
        go_wp2_with fail
        go_ret
        exact ⟨by rw [H2.out]; rfl, rfl⟩
end Go.Proofs.Qxb6601491a
