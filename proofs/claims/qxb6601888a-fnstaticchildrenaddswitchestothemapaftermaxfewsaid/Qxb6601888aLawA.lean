/-
  THE LAW FnStaticChildrenAddThenGetIsAFiniteMap, WALKED.
-/
import Derived.Test.Qxb6601888aInv
import Derived.Deep.RegionWith
import Derived.Lib.Builder
namespace Go.Proofs.Qxb6601888a
open Go.RowKit

theorem Try.info37 : (Try.prog.info? 37).map (fun i => (i.zero, i.size, i.bytes)) = some (some (.pointer none), 1, 8) := by kernel_rfl

theorem Try.some64 : (Try.prog.info? 64).isSome = true := by kernel_rfl

/-- A pointer held against itself by '!='. -/
theorem neq_self (x : Addr) (w : World) : (binOp .neq 37 (.pointer (some x)) (.pointer (some x))).run Try.prog w = .ok (.bool false) w := by
  obtain ⟨j, hj⟩ := Option.isSome_iff_exists.1 Try.some64
  exact Lib.run_neq_ptr_same w x Try.underlying37 hj

/-- 'zzCloneStrings', whatever the list. -/
theorem clone_zz (a : Option Addr) (cap n : Nat) (G : Nat → ByteArray) (w : World) (hA : Strs w a n G) (hn : n ≤ 4096) (ha : a = none → cap = 0) :
    Calls Try.prog 16 #[.slice a n cap] w fun e w' => ∃ a1, e = .returned (.slice a1 n n) ∧ TextsAt w' a1 n G ∧ Below w.heap.size w w' := by
  by_cases h0 : n = 0
  · subst h0
    refine (clone_none a cap G w ha).mono ?_
    rintro e w' ⟨a1, rfl, -, hb⟩
    exact ⟨a1, rfl, .inl rfl, hb⟩
  · obtain ⟨blk, off, rfl, hc⟩ := strs_at hA (by omega)
    refine (clone_some blk off cap n G w (by omega) hn (World.block_lt_of_cell? w _ (hc 0 (by omega))) hc).mono ?_
    rintro e w' ⟨a1, rfl, h, hb⟩
    rcases h with h | ⟨rfl, hrow⟩
    · exact absurd h h0
    · refine ⟨_, rfl, .inr ?_, hb⟩
      rcases hrow.2 with ⟨h, _⟩ | ⟨g, cp, cur, h, _, hg, _, _, hs, ht⟩
      · cases h
      · cases h
        refine ⟨_, cur, rfl, hg, fun t ht' => ?_⟩
        have e1 : (cur.toList.take (n * 1))[t]? = (strCells G n)[t]? := by rw [ht]
        rw [List.getElem?_take_of_lt (by omega), Array.getElem?_toList] at e1
        rw [e1]
        simp [strCells, ht']

theorem Strs.below {w w' : World} {a : Option Addr} {n : Nat} {G : Nat → ByteArray} (h : Strs w a n G) (hb : Below w.heap.size w w') : Strs w' a n G := by
  rcases h with h | ⟨blk, off, rfl, h⟩
  · exact .inl h
  · exact .inr ⟨blk, off, rfl, fun t ht => (hb.cell (p := ⟨blk, off + t, none⟩) (World.block_lt_of_cell? w _ (h t ht))).trans (h t ht)⟩

theorem TextsAt.below {w w' : World} {a : Option Addr} {n : Nat} {G : Nat → ByteArray} (h : TextsAt w a n G) (hb : Below w.heap.size w w') : TextsAt w' a n G :=
  TextsAt.same h fun _ _ hk => hb.block _ (lt_of_heap hk)

/-- The row of nodes that 'make' lays. -/
theorem nodes_made {w : World} {base M n : Nat} (h : w.ownsRow base 37 1 (.slice (some ⟨M, 0, none⟩) n n) n (madeCells (Value.pointer none).cells (n * 1)).toList) : NodesAt w M n (fun _ => .pointer none) := by
  rcases h.2 with ⟨h, _⟩ | ⟨g, cp, cur, h, _, hg, _, _, hs, ht⟩
  · cases h
  · cases h
    refine ⟨cur, hg, fun j hj => ?_⟩
    have e : (madeCells (Value.pointer none).cells (n * 1)).toList = List.replicate n (.pointer none) := by rw [Nat.mul_one]; exact toList_madeCells_one _ _
    rw [e] at ht
    have e1 : (cur.toList.take (n * 1))[j]? = (List.replicate n (Value.pointer none))[j]? := by rw [ht]
    rw [List.getElem?_take_of_lt (by omega), Array.getElem?_toList] at e1
    rw [e1]
    simp [hj]

/-- 'ZZNewNode': a new block; a pointer to it. -/
theorem new_zz (w : World) : Calls Try.prog 18 #[] w fun e w' => e = .returned (.pointer (some ⟨w.heap.size, 0, none⟩)) ∧ ∃ o, w' = w.alloc o := by
  go_enter Try.func18, Try.ntmps18
  go_wp2
  go_ret
  exact ⟨rfl, _, rfl⟩

/-- The row of nodes behind i adds. -/
def nodesOf (G : Nat → ByteArray) (A : Nat → Addr) (i j : Nat) : Value := if j < i ∧ fstI G j = j then .pointer (some (A j)) else .pointer none

theorem nodesOf_old {G : Nat → ByteArray} {A : Nat → Addr} {i : Nat} (h : ¬ fstI G i = i) (j : Nat) : nodesOf G A i j = nodesOf G A (i + 1) j := by
  unfold nodesOf
  by_cases e : j = i
  · subst e; rw [if_neg (by omega), if_neg (by simp [h])]
  · by_cases hj : j < i
    · simp [hj, show j < i + 1 by omega]
    · simp [hj, show ¬ j < i + 1 by omega]

theorem nodesOf_new {G : Nat → ByteArray} {A : Nat → Addr} {i : Nat} (a : Addr) (h : fstI G i = i) (j : Nat) : (if j = i then Value.pointer (some a) else nodesOf G A i j) = nodesOf G (fun k => if k = i then a else A k) (i + 1) j := by
  unfold nodesOf
  by_cases e : j = i
  · subst e; simp [h]
  · by_cases hj : j < i
    · simp [e, hj, show j < i + 1 by omega]
    · simp [e, hj, show ¬ j < i + 1 by omega]

theorem texts_cells {w : World} {a : Option Addr} {n : Nat} {G : Nat → ByteArray} (h : TextsAt w a n G) (h0 : 0 < n) : ∃ T0, a = some ⟨T0, 0, none⟩ ∧ ∀ t, t < n → w.cell? ⟨T0, t, none⟩ = some (.string (G t)) := by
  rcases h with h | ⟨T0, cur, rfl, h1, h2⟩
  · omega
  · exact ⟨T0, rfl, fun t ht => by simp [World.cell?, h1, h2 t ht]⟩

theorem texts_cells_at {w : World} {T0 n : Nat} {G : Nat → ByteArray} (h : TextsAt w (some ⟨T0, 0, none⟩) n G) (t : Nat) (ht : t < n) : w.cell? ⟨T0, t, none⟩ = some (.string (G t)) := by
  obtain ⟨T1, e, h⟩ := texts_cells h (by omega)
  cases e
  exact h t ht

set_option maxHeartbeats 1000000 in
set_option maxRecDepth 100000 in
theorem law_any (a b : Option Addr) (n m ca cb : Nat) (G K : Nat → ByteArray) (w : World) (hn0 : n ≤ maxLen) (hm0 : m ≤ maxLen) (hA : Strs w a n G) (hB : Strs w b m K) (ha : a = none → ca = 0) (hb : b = none → cb = 0) :
    Calls Try.prog 5 #[.slice a n ca, .slice b m cb] w fun e w' => e = .returned (.bool true) ∧ Below w.heap.size w w' := by
  have c1 := bytes_zz a b n m ca cb G K w hn0 hm0 hA hB
  have c2 := fit_zz a b n m ca cb G K w hn0 hm0 hA hB
  obtain ⟨i0, hi, hz0, hz1, hz2⟩ := info_parts Try.info37
  have HA : Hid (Strs w a n G) := hA
  have HB : Hid (Strs w b m K) := hB
  have HHA : Hid (a = none → ca = 0) := ha
  have HHB : Hid (b = none → cb = 0) := hb
  obtain ⟨base, hbase⟩ : ∃ base, base = w.heap.size := ⟨_, rfl⟩
  rw [← hbase]
  clear hA hB ha hb hn0 hm0
  go_enter Try.func5, Try.ntmps5
  go_wp2_with fail
  refine c1.mono ?_
  clear c1
  rintro e w' ⟨⟨r, rfl⟩, hw'⟩
  subst hw'
  cases r
  · go_wp2_with fail
    go_ret
    exact ⟨rfl, Below.refl _ _⟩
  go_wp2_with fail
  refine c2.mono ?_
  clear c2
  rintro e w' ⟨⟨r, rfl, hr⟩, hw'⟩
  subst hw'
  cases r
  · clear hr
    go_wp2_with fail
    go_ret
    exact ⟨rfl, Below.refl _ _⟩
  obtain ⟨hn, hm⟩ := hr rfl
  clear hr
  have c3 := clone_zz a ca n G w' HA.out hn HHA.out
  rw [← hbase] at c3
  clear HA HHA
  go_wp2_with fail
  refine c3.mono ?_
  clear c3
  rintro e w1 ⟨a1, rfl, ht1, hb1⟩
  have hs1 : w'.heap.size ≤ w1.heap.size := by have := hb1.size; omega
  have c4 := clone_zz b cb m K w1 (HB.out.below (by rw [hbase] at hb1; exact hb1)) hm HHB.out
  go_wp2_with fail
  refine c4.mono ?_
  clear c4 HB HHB
  rintro e w2 ⟨a2, rfl, ht2, hb2⟩
  have ht1' := ht1.below hb2
  have hbb : Below base w' w2 := hb1.trans (hb2.mono (by omega))
  have hs2 : base ≤ w2.heap.size := by have := hb2.size; omega
  -- the children's struct, the row of nodes
  obtain ⟨S, hS⟩ : ∃ S, S = w2.heap.size := ⟨_, rfl⟩
  have q1 : Below w2.heap.size w2 (w2.alloc (.cells #[.slice none 0 0, .map none] 34)) := (Below.refl _ _).alloc (Nat.le_refl _) _
  have q2 : (w2.alloc (.cells #[.slice none 0 0, .map none] 34)).heap[S]? = some (.cells #[.slice none 0 0, .map none] 34 (0, 0)) := by rw [hS]; exact heap_alloc_new w2 _
  have q3 : (w2.alloc (.cells #[.slice none 0 0, .map none] 34)).heap.size = S + 1 := by rw [hS]; simp
  clear ht1 hb1 hb2 hs1
  go_wp2_with (at_make; refine wpList_make_full _ rfl _ _ 35 rfl base 37 i0 (.pointer none) 1 Try.underlying35 hi hz0 hz1 .i64 .i64 _ _ n rfl rfl rfl rfl (by rw [hz2]; omega) (by unfold maxLen; omega) (by rw [q3]; omega) ?_; intro w3 hown hgrow)
  have hM := nodes_made (M := S + 1) (by rw [q3] at hown; exact hown)
  have q4 : Below (S + 1) (w2.alloc (.cells #[.slice none 0 0, .map none] 34)) w3 := (Below.refl _ _).grown hgrow (by omega) (fun k hk => by cases hk)
  have q5 : Below w2.heap.size w2 w3 := q1.trans (q4.mono (by omega))
  have INV0 : Hid (Inv base S (S + 1) n m a1 a2 G K (nodesOf G (fun _ => ⟨0, 0, none⟩) 0) (kids G (fun _ => ⟨0, 0, none⟩) 0) w' w3) :=
    ⟨hbb.trans (q5.mono hs2), Nat.le_trans hs2 q5.size, ht1'.below q5, ht2.below q5, hM.congr fun j _ => by simp [nodesOf], ⟨_, _, (q4.block S (by omega)).trans q2, .inl ⟨by simp [kids], rfl, World.ownsRow_nil _ _ _ _⟩⟩⟩
  have hSb : base ≤ S := by omega
  have hMb : base ≤ S + 1 := by omega
  clear hown hgrow q1 q2 q3 q4 q5 hM ht1' ht2 hbb hs2 hi hz0 hz1 hz2
  rw [← hS]
  clear hS
  go_loopw [7] (fun vi wr => ∃ (i : Nat) (A : Nat → Addr), i ≤ n ∧ vi = .int .i64 i ∧ Hid (Inv base S (S + 1) n m a1 a2 G K (nodesOf G A i) (kids G A i) w' wr)) (fun vi _ => n - (intOf vi).toNat)
  case atStart => exact ⟨0, _, Nat.zero_le _, rfl, INV0⟩
  case round =>
    obtain ⟨i, A, hin, rfl, IK⟩ := hrel
    clear INV0
    by_cases hlt : i < n
    · obtain ⟨T0, ha1, hc⟩ := texts_cells IK.out.texts (by omega)
      have hc' : ∀ t, t < n → wr.cell? ⟨T0, 0 + t, none⟩ = some (.string (G t)) := fun t ht => by rw [Nat.zero_add]; exact hc t ht
      have cF := first_zz T0 0 n n i G wr hn hlt hc'
      rw [ha1] at IK
      rw [ha1]
      clear hc hc' ha1
      have hle := (fst_spec G i).1
      by_cases hfi : fstI G i < i
      · have HO : Hid (¬ fstI G i = i) := by show ¬ _; omega
        have I2 : Hid (∀ q, Inv base S (S + 1) n m (some ⟨T0, 0, none⟩) a2 G K (nodesOf G A (i + 1)) (kids G A (i + 1)) w' (wr.drewN q)) := fun q => by
          rw [kids_old HO.out]; exact (IK.out.drewN q).turn fun j _ => nodesOf_old HO.out j
        clear IK HO
        go_wp2_with fail
        refine cF.mono ?_
        rintro e w4 ⟨rfl, q, rfl⟩
        clear cF
        go_wp2_with fail
        go_roundw
        case rel => exact ⟨i + 1, A, by omega, by go_num, I2.out q⟩
        case measure => simp [intOf]; omega
      · have hfe : fstI G i = i := by omega
        have HFE : Hid (fstI G i = i) := hfe
        clear hfe
        go_wp2_with fail
        refine cF.mono ?_
        rintro e w4 ⟨rfl, q, hw4⟩
        clear cF
        have I4 : Hid (Inv base S (S + 1) n m (some ⟨T0, 0, none⟩) a2 G K (nodesOf G A i) (kids G A i) w' w4) := by rw [hw4]; exact IK.out.drewN q
        clear IK hw4
        go_wp2_with fail
        refine (new_zz _).mono ?_
        rintro e w5 ⟨rfl, o, hw5⟩
        obtain ⟨ad, had⟩ : ∃ ad : Addr, ad = ⟨w4.heap.size, 0, none⟩ := ⟨_, rfl⟩
        rw [← had]
        have I5 : Hid (Inv base S (S + 1) n m (some ⟨T0, 0, none⟩) a2 G K (nodesOf G A i) (kids G A i) w' w5) := by rw [hw5]; exact I4.out.alloc o
        clear I4 had hw5
        have n1 := I5.out.nodes.cell i hlt
        have n2 := I5.out.nodes.frozen i
        have I6 : Hid (Inv base S (S + 1) n m (some ⟨T0, 0, none⟩) a2 G K (nodesOf G (fun k => if k = i then ad else A k) (i + 1)) (kids G A i) w' (w5.setCell ⟨S + 1, i, none⟩ (.pointer (some ad)))) :=
          (I5.out.store hMb i _).turn fun j _ => nodesOf_new ad HFE.out j
        clear I5
        go_wp2_with fail
        have t1 := texts_cells_at I6.out.texts i hlt
        have t2 : (w5.setCell ⟨S + 1, i, none⟩ (.pointer (some ad))).cell? ⟨S + 1, i, none⟩ = some (.pointer (some ad)) := by
          rw [I6.out.nodes.cell i hlt]; simp [nodesOf, HFE.out]
        clear n1 n2
        generalize w5.setCell ⟨S + 1, i, none⟩ (.pointer (some ad)) = w6 at I6 t1 t2 ⊢
        have cA := add_zz base S (kids G A i) (G i) ad w6.drew (I6.out.drew.st) hSb (kids_apart G A i) (find_fresh HFE.out)
        obtain ⟨A', hA'⟩ : ∃ A' : Nat → Addr, A' = fun k => if k = i then ad else A k := ⟨_, rfl⟩
        have HK : Hid (kids G A' (i + 1) = kids G A i ++ [(G i, ad)]) := by
          show _ = _
          rw [kids_new HFE.out, hA', kids_congr (A' := A) fun j hj => by simp [show j ≠ i by omega]]
          simp
        rw [← hA'] at I6
        clear hA'
        go_region_with (go_at_call 19; refine cA.mono ?_; rintro e w7 ⟨rfl, hst, hkp⟩)
        all_goals
          have I7 : Hid (Inv base S (S + 1) n m (some ⟨T0, 0, none⟩) a2 G K (nodesOf G A' (i + 1)) (kids G A' (i + 1)) w' w7) := by
            show Inv _ _ _ _ _ _ _ _ _ _ _ _ _
            rw [HK.out]; exact I6.out.drew.added hkp hst
          clear hst hkp I6 t1 t2 HK cA
          go_wp2_with fail
          go_roundw
          case rel => exact ⟨i + 1, A', by omega, by go_num, I7⟩
          case measure => simp [intOf]; omega
    · have hie : i = n := by omega
      subst hie
      clear hlt hin
      go_wp2_with fail
      go_loopw [8] (fun vj wr => ∃ j : Nat, j ≤ i ∧ vj = .int .i64 j ∧ Hid (Inv base S (S + 1) i m a1 a2 G K (nodesOf G A i) (kids G A i) w' wr)) (fun vj _ => i - (intOf vj).toNat)
      case atStart => exact ⟨0, Nat.zero_le _, rfl, IK⟩
      case round =>
        obtain ⟨j, hjn, rfl, IJ⟩ := hrel
        clear IK
        by_cases hlt : j < i
        · obtain ⟨T0, ha1, hc⟩ := texts_cells IJ.out.texts (by omega)
          have t1 := hc j hlt
          have cG := get_zz base S (kids G A i) (G j) wr IJ.out.st
          rw [find_text hlt] at cG
          have hfl : fstI G j < i := by have := (fst_spec G j).1; omega
          have cF : ∀ w', Below wr.heap.size wr w' → Calls Try.prog 17 #[.slice (some ⟨T0, 0, none⟩) i i, .int .i64 j] w' fun e w'' => e = .returned (.int .i64 (fstI G j : Nat)) ∧ ∃ q, w'' = w'.drewN q := fun w' hb => by
            have h := IJ.out.later hb
            rw [ha1] at h
            exact first_zz T0 0 i i j G w' hn hlt (fun t ht => by rw [Nat.zero_add]; exact texts_cells_at h.texts t ht)
          have hN : ∀ w', Below wr.heap.size wr w' → w'.cell? ⟨S + 1, fstI G j, none⟩ = some (.pointer (some (A (fstI G j)))) := fun w' hb => by
            rw [(IJ.out.later hb).nodes.cell _ hfl]; simp [nodesOf, hfl, fst_fst]
          rw [ha1] at IJ
          rw [ha1]
          clear hc ha1
          generalize fstI G j = f at cG hfl cF hN
          have HIJ : Hid (∀ v, Below wr.heap.size wr v → Inv base S (S + 1) i m (some ⟨T0, 0, none⟩) a2 G K (nodesOf G A i) (kids G A i) w' v) := fun v hb => IJ.out.later hb
          clear IJ
          go_wp2_with fail
          refine cG.mono ?_
          rintro e w4 ⟨rfl, hb4⟩
          have cF4 := cF w4 hb4
          have n4 := hN w4 hb4
          have I4 : Hid _ := HIJ.out w4 hb4
          clear cG cF hN HIJ t1 hb4
          go_wp2_with fail
          refine cF4.mono ?_
          rintro e w5 ⟨rfl, q, hw5⟩
          have n5 : w5.cell? ⟨S + 1, f, none⟩ = some (.pointer (some (A f))) := by rw [hw5]; exact n4
          have I5 : Hid (Inv base S (S + 1) i m (some ⟨T0, 0, none⟩) a2 G K (nodesOf G A i) (kids G A i) w' w5) := by rw [hw5]; exact I4.out.drewN q
          clear cF4 n4 I4 hw5
          have hne := neq_self (A f)
          go_wp2_with fail
          go_roundw
          case rel => exact ⟨j + 1, by omega, by go_num, I5⟩
          case measure => simp [intOf]; omega
        · have hje : i = j := by omega
          subst hje
          clear hlt hjn
          go_wp2_with fail
          go_loopw [9] (fun vj wr => ∃ j : Nat, j ≤ m ∧ vj = .int .i64 j ∧ Hid (Inv base S (S + 1) i m a1 a2 G K (nodesOf G A i) (kids G A i) w' wr)) (fun vj _ => m - (intOf vj).toNat)
          case atStart => exact ⟨0, Nat.zero_le _, rfl, IJ⟩
          case round =>
            obtain ⟨p, hpm, rfl, IP⟩ := hrel
            clear IJ
            by_cases hlt : p < m
            · obtain ⟨P0, ha2, hc⟩ := texts_cells IP.out.probes (by omega)
              have t1 := hc p hlt
              have cI := index_zz a1 i i (K p) G wr hn IP.out.texts.strs
              have cG := get_zz base S (kids G A i) (K p) wr IP.out.st
              rw [ha2] at IP
              rw [ha2]
              clear hc ha2
              rcases find_probe (G := G) (A := A) (n := i) (t := K p) with ⟨e1, e2⟩ | ⟨k, hk, e1, e2, e3⟩
              · rw [e1] at cI
                rw [e2] at cG
                clear e1 e2
                have HIP : Hid (∀ v, Below wr.heap.size wr v → Inv base S (S + 1) i m a1 (some ⟨P0, 0, none⟩) G K (nodesOf G A i) (kids G A i) w' v) := fun v hb => IP.out.later hb
                clear IP
                go_wp2_with fail
                refine cI.mono ?_
                rintro e w4 ⟨rfl, rfl⟩
                go_wp2_with fail
                refine cG.mono ?_
                rintro e w5 ⟨rfl, hb5⟩
                have I5 : Hid _ := HIP.out w5 hb5
                clear cI cG HIP hb5 t1
                go_wp2_with fail
                go_roundw
                case rel => exact ⟨p + 1, by omega, by go_num, I5⟩
                case measure => simp [intOf]; omega
              · rw [e1] at cI
                rw [e3] at cG
                have hN : ∀ w', Below wr.heap.size wr w' → w'.cell? ⟨S + 1, k, none⟩ = some (.pointer (some (A k))) := fun w' hb => by
                  rw [(IP.out.later hb).nodes.cell _ hk]; simp [nodesOf, hk, e2]
                have HIP : Hid (∀ v, Below wr.heap.size wr v → Inv base S (S + 1) i m a1 (some ⟨P0, 0, none⟩) G K (nodesOf G A i) (kids G A i) w' v) := fun v hb => IP.out.later hb
                clear IP e1 e2 e3
                have hne := neq_self (A k)
                go_wp2_with fail
                refine cI.mono ?_
                rintro e w4 ⟨rfl, rfl⟩
                go_wp2_with fail
                refine cG.mono ?_
                rintro e w5 ⟨rfl, hb5⟩
                have I5 : Hid _ := HIP.out w5 hb5
                have n5 := hN w5 hb5
                clear cI cG HIP hb5 t1 hN
                go_wp2_with fail
                go_roundw
                case rel => exact ⟨p + 1, by omega, by go_num, I5⟩
                case measure => simp [intOf]; omega
            · go_wp2_with fail
              go_ret
              exact ⟨rfl, IP.out.below⟩
end Go.Proofs.Qxb6601888a
