/-
  THE LAW FnStaticChildrenAddSwitchesToTheMapAfterMaxFew, WALKED.
-/
import Derived.Test.Qxb6601888aInvB
namespace Go.Proofs.Qxb6601888a
open Go.RowKit

/-- The one cell of what 'append' is handed. -/
theorem one_cell (w : World) (v : Value) (t : TypeId) : ∀ (j : Nat) (u : Value), [v][j]? = some u → (w.alloc (.cells #[v] t)).cell? ((⟨w.heap.size, 0, none⟩ : Addr).add j) = some u := by
  intro j u h
  match j, h with
  | 0, h => simp at h; subst h; simp [Addr.add]

set_option maxHeartbeats 1000000 in
set_option maxRecDepth 100000 in
theorem law_b (a : Option Addr) (n ca : Nat) (G : Nat → ByteArray) (w : World) (hn0 : n ≤ maxLen) (hA : Strs w a n G) (ha : a = none → ca = 0) :
    Calls Try.prog 6 #[.slice a n ca] w fun e w' => e = .returned (.bool true) ∧ Below w.heap.size w w' := by
  have c1 := bytes1_zz a n ca G w hn0 hA
  have c2 := fit_zz a none n 0 ca 0 G G w hn0 (Nat.zero_le _) hA (.inl rfl)
  obtain ⟨i0, hi, hz0, hz1, hz2⟩ := info_parts Try.info37
  obtain ⟨i1, hj, hy0, hy1, hy2⟩ := info_parts Try.info9
  have HA : Hid (Strs w a n G) := hA
  have HHA : Hid (a = none → ca = 0) := ha
  clear hA ha hn0
  go_enter Try.func6, Try.ntmps6
  go_wp2_with fail
  refine c1.mono ?_
  clear c1
  rintro e w' ⟨⟨r, rfl⟩, hw'⟩
  subst hw'
  cases r
  · go_wp2_with fail
    go_ret
    exact ⟨rfl, Below.refl _ _⟩
  go_wp2_with fail
  refine c2.mono ?_
  clear c2
  rintro e w' ⟨⟨r, rfl, hr⟩, hw'⟩
  subst hw'
  cases r
  · clear hr
    go_wp2_with fail
    go_ret
    exact ⟨rfl, Below.refl _ _⟩
  obtain ⟨hn, -⟩ := hr rfl
  clear hr
  have c3 := clone_zz a ca n G w' HA.out hn HHA.out
  clear HA HHA
  go_wp2_with fail
  refine c3.mono ?_
  clear c3
  rintro e w2 ⟨a1, rfl, ht1, hb1⟩
  have HT : Hid (TextsAt w2 a1 n G) := ht1
  have HB1 : Hid (Below w'.heap.size w' w2) := hb1
  clear ht1 hb1
  obtain ⟨S, hS⟩ : ∃ S, S = w2.heap.size := ⟨_, rfl⟩
  have q2 : (w2.alloc (.cells #[.slice none 0 0, .map none] 34)).heap[S]? = some (.cells #[.slice none 0 0, .map none] 34 (0, 0)) := by rw [hS]; exact heap_alloc_new w2 _
  have q3 : (w2.alloc (.cells #[.slice none 0 0, .map none] 34)).heap.size = S + 1 := by rw [hS]; simp
  have q4 : Below S w2 (w2.alloc (.cells #[.slice none 0 0, .map none] 34)) := (Below.refl _ _).alloc (by omega) _
  go_wp2_with (first
    | (at_make; refine wpList_make_own _ rfl _ _ 28 rfl S 9 i1 (.string ⟨#[]⟩) 1 Try.underlying28 hj hy0 hy1 .i64 .i64 _ n rfl rfl rfl (by rw [hy2]; omega) (by unfold maxLen; omega) (by rw [q3]; omega) ?_; intro w3 hown hgrow)
    | (at_make; refine wpList_make_own _ rfl _ _ 35 rfl S 37 i0 (.pointer none) 1 Try.underlying35 hi hz0 hz1 .i64 .i64 _ n rfl rfl rfl (by rw [hz2]; omega) (by unfold maxLen; omega) (by have := hgrow.size; rw [q3] at this; omega) ?_; intro w4 hown2 hgrow2))
  have q5 : Below S w2 w3 := q4.grown hgrow (by omega) (fun k hk => by cases hk)
  have q6 := (hgrow.block S (by omega) (by simp)).trans q2
  have q7 : S + 1 ≤ w3.heap.size := by rw [← q3]; exact hgrow.size
  rw [q3] at hown
  clear hgrow q2 q3 q4
  have INV0 : Hid (InvB S S (S + 1) w3.heap.size n 0 0 (kids G (fun _ => ⟨0, 0, none⟩) 0) (kids G (fun _ => ⟨0, 0, none⟩) 0) (kids G (fun _ => ⟨0, 0, none⟩) 0) w2 w4) :=
    ⟨q5.grown hgrow2 (by omega) (fun k hk => by cases hk), by have := hgrow2.size; omega, rfl, rfl, ownsRow_congr hown fun g hg => hgrow2.block g (hown.lt g hg).2 (by simp), hown2,
      ⟨_, _, (hgrow2.block S (by omega) (by simp)).trans q6, .inl ⟨by simp [kids], rfl, World.ownsRow_nil _ _ _ _⟩⟩⟩
  obtain ⟨A0, hA0⟩ : ∃ A0, A0 = S + 1 := ⟨_, rfl⟩
  obtain ⟨N0, hN0⟩ : ∃ N0, N0 = w3.heap.size := ⟨_, rfl⟩
  rw [← hA0, ← hN0] at INV0
  rw [← hS, ← hA0, ← hN0]
  clear hown hown2 hgrow2 q5 q6 q7 hA0 hN0
  have HS : Hid (S = w2.heap.size) := hS
  clear hS
  go_loopw [4, 5, 6] (fun va vn vi wr => ∃ (i c : Nat) (A : Nat → Addr), i ≤ n ∧ c ≤ i ∧ vi = .int .i64 i ∧ va = .slice (some ⟨A0, 0, none⟩) c n ∧ vn = .slice (some ⟨N0, 0, none⟩) c n ∧ Hid (InvB S S A0 N0 n c c (kids G A i) (kids G A i) (kids G A i) w2 wr)) (fun _ _ vi _ => n - (intOf vi).toNat)
  case atStart => exact ⟨0, 0, _, Nat.zero_le _, Nat.zero_le _, rfl, rfl, rfl, INV0⟩
  case round =>
    obtain ⟨i, c, A, hin, hci, rfl, rfl, rfl, IK⟩ := hrel
    clear INV0
    by_cases hlt : i < n
    · obtain ⟨T0, ha1, -⟩ := texts_cells HT.out (by omega)
      have hX : ∀ v, Below S w2 v → TextsAt v (some ⟨T0, 0, none⟩) n G := fun v hb => by
        rw [← ha1]; exact TextsAt.below HT.out (by rw [← HS.out]; exact hb)
      have HX : Hid (∀ v, Below S w2 v → TextsAt v (some ⟨T0, 0, none⟩) n G) := hX
      clear hX
      have cF := first_zz T0 0 n n i G wr hn hlt (fun t ht => by rw [Nat.zero_add]; exact texts_cells_at (HX.out wr IK.out.below) t ht)
      rw [ha1]
      clear ha1
      have hle := (fst_spec G i).1
      by_cases hfi : fstI G i < i
      · have HO : Hid (¬ fstI G i = i) := by show ¬ _; omega
        have I2 : Hid (∀ q, InvB S S A0 N0 n c c (kids G A (i + 1)) (kids G A (i + 1)) (kids G A (i + 1)) w2 (wr.drewN q)) := fun q => by
          rw [kids_old HO.out]; exact IK.out.drewN q
        clear IK HO HX
        go_wp2_with fail
        refine cF.mono ?_
        rintro e w4 ⟨rfl, q, rfl⟩
        clear cF
        go_wp2_with fail
        go_roundw
        case rel => exact ⟨i + 1, c, A, by omega, by omega, by go_num, rfl, rfl, I2.out q⟩
        case measure => simp [intOf]; omega
      · have hfe : fstI G i = i := by omega
        have HFE : Hid (fstI G i = i) := hfe
        clear hfe
        go_wp2_with fail
        refine cF.mono ?_
        rintro e w4 ⟨rfl, q, hw4⟩
        clear cF
        have I4 : Hid (InvB S S A0 N0 n c c (kids G A i) (kids G A i) (kids G A i) w2 w4) := by rw [hw4]; exact IK.out.drewN q
        clear IK hw4
        go_wp2_with fail
        refine (new_zz _).mono ?_
        rintro e w5 ⟨rfl, o, hw5⟩
        obtain ⟨ad, had⟩ : ∃ ad : Addr, ad = ⟨w4.heap.size, 0, none⟩ := ⟨_, rfl⟩
        rw [← had]
        have I5 : Hid (InvB S S A0 N0 n c c (kids G A i) (kids G A i) (kids G A i) w2 w5) := by rw [hw5]; exact I4.out.alloc o
        clear I4 had hw5
        have t5 := texts_cells_at (HX.out w5 I5.out.below) i hlt
        have cA := add_zz S S (kids G A i) (G i) ad w5 I5.out.st (Nat.le_refl _) (kids_apart G A i) (find_fresh HFE.out)
        go_wp2_with fail
        refine cA.mono ?_
        rintro e w7 ⟨rfl, hst, hkp⟩
        have I7 : Hid _ := I5.out.put hkp hst
        clear cA hst hkp I5 t5
        have t7 := texts_cells_at (HX.out w7 I7.out.below) i hlt
        clear HX
        have own7 := I7.out.added
        have hlt7 := (own7.lt A0 rfl).2
        go_wp2_with (first
          | (at_builtin; refine wpList_append_fits _ rfl _ _ 28 rfl S 9 i1 1 Try.underlying28 hj hy1 A0 c n (txtCells (kids G A i)) rfl (own7.alloc _) ⟨w7.heap.size, 0, none⟩ 1 1 [.string (G i)] rfl rfl (one_cell _ _ _) (by intro u hu; simp at hu; subst hu; rfl) (by omega) ?_; intro w8 hown8 hgrow8)
          | (at_builtin; refine wpList_append_fits _ rfl _ _ 35 rfl S 37 i0 1 Try.underlying35 hi hz1 N0 c n (ptrCells (kids G A i)) rfl ((InvB.text (a := ad) I7.out hgrow8 hown8).nodes.alloc _) ⟨w8.heap.size, 0, none⟩ 1 1 [.pointer (some ad)] rfl rfl (one_cell _ _ _) (by intro u hu; simp at hu; subst hu; rfl) (by omega) ?_; intro w9 hown9 hgrow9))
        have I9 : Hid _ := InvB.node (t := G i) (InvB.text (a := ad) I7.out hgrow8 hown8) hgrow9 hown9
        clear I7 hown8 hgrow8 own7 hlt7 t7 hown9 hgrow9
        obtain ⟨A', hA'⟩ : ∃ A' : Nat → Addr, A' = fun k => if k = i then ad else A k := ⟨_, rfl⟩
        have HK : Hid (kids G A' (i + 1) = kids G A i ++ [(G i, ad)]) := by
          show _ = _
          rw [kids_new HFE.out, hA', kids_congr (A' := A) fun j hj => by simp [show j ≠ i by omega]]
          simp
        clear hA'
        have hap : Hid (Apart (kids G A i ++ [(G i, ad)])) := by show Apart _; rw [← HK.out]; exact kids_apart G A' (i + 1)
        have HR : Hid (∀ v, InvB S S A0 N0 n (c + 1) (c + 1) (kids G A i ++ [(G i, ad)]) (kids G A i ++ [(G i, ad)]) (kids G A i ++ [(G i, ad)]) w2 v → InvB S S A0 N0 n (c + 1) (c + 1) (kids G A' (i + 1)) (kids G A' (i + 1)) (kids G A' (i + 1)) w2 v) := fun v h => by rw [HK.out]; exact h
        clear HK HFE
        generalize kids G A i ++ [(G i, ad)] = l at I9 hap HR
        have cS := shape_zz S S l w9 I9.out.st
        rw [I9.out.lenA] at cS
        unfold shapeOf at cS
        by_cases h8 : c + 1 ≤ 8
        · rw [if_pos h8] at cS
          go_wp2_with fail
          refine cS.mono ?_
          rintro e w10 ⟨rfl, q, hw10⟩
          have I10 : Hid (InvB S S A0 N0 n (c + 1) (c + 1) l l l w2 w10) := by rw [hw10]; exact I9.out.drewN q
          clear cS I9 hw10
          go_wp2_with fail
          rw [show decide ((c : Int) + 1 ≤ 8) = true from decide_eq_true (by omega)]
          go_loopw [12] (fun vk wr => ∃ k : Nat, k ≤ c + 1 ∧ vk = .int .i64 k ∧ Hid (InvB S S A0 N0 n (c + 1) (c + 1) l l l w2 wr)) (fun vk _ => c + 1 - (intOf vk).toNat)
          case atStart => exact ⟨0, Nat.zero_le _, rfl, I10⟩
          case round =>
            obtain ⟨k, hk, rfl, IQ⟩ := hrel
            clear I10
            by_cases hlt : k < c + 1
            · go_wp2_with fail
              rw [show decide ((k : Int) < c + 1) = true from decide_eq_true (by omega)]
              go_loopw [13, 14] (fun vs vj wr => ∃ j : Nat, j ≤ c + 1 ∧ vj = .int .i64 j ∧ vs = .int .i64 (if k < j then 1 else 0) ∧ Hid (InvB S S A0 N0 n (c + 1) (c + 1) l l l w2 wr)) (fun _ vj _ => c + 1 - (intOf vj).toNat)
              case atStart => exact ⟨0, Nat.zero_le _, rfl, rfl, IQ⟩
              case round =>
                obtain ⟨j, hj', rfl, rfl, IJ⟩ := hrel
                clear IQ
                by_cases hltj : j < c + 1
                · have hjl : j < l.length := by rw [IJ.out.lenA]; exact hltj
                  have hkl : k < l.length := by rw [IJ.out.lenA]; exact hlt
                  have cW := few_zz S S l j wr IJ.out.st (by rw [IJ.out.lenA]; exact h8) hjl
                  have HD0 : Hid (∀ q, (wr.drewN q).cell? ⟨A0, k, none⟩ = some (.string l[k].1)) := fun q => (IJ.out.drewN q).textAt k hkl
                  have HD1 : Hid (∀ q, (wr.drewN q).cell? ⟨N0, k, none⟩ = some (.pointer (some l[k].2))) := fun q => (IJ.out.drewN q).nodeAt k hkl
                  by_cases hjk : j = k
                  · subst hjk
                    rw [if_neg (Nat.lt_irrefl j)]
                    generalize l[j].1 = x at cW HD0
                    generalize l[j].2 = b at cW HD1
                    have hq : (x.toList == x.toList) = true := eqs_iff.2 rfl
                    have heq := eql_self b
                    go_wp2_with fail
                    refine cW.mono ?_
                    rintro e w11 ⟨rfl, q, hw11⟩
                    have d0 : w11.cell? ⟨A0, j, none⟩ = some (.string x) := by rw [hw11]; exact HD0.out q
                    have d1 : w11.cell? ⟨N0, j, none⟩ = some (.pointer (some b)) := by rw [hw11]; exact HD1.out q
                    have I11 : Hid (InvB S S A0 N0 n (c + 1) (c + 1) l l l w2 w11) := by rw [hw11]; exact IJ.out.drewN q
                    clear cW HD0 HD1 IJ hw11
                    go_wp2_with fail
                    go_roundw
                    case rel => exact ⟨j + 1, by omega, by go_num, by rw [if_pos (Nat.lt_succ_self j)], I11⟩
                    case measure => simp [intOf]; omega
                  · obtain ⟨sv, hsv⟩ : ∃ sv : Int, sv = if k < j then 1 else 0 := ⟨_, rfl⟩
                    rw [← hsv]
                    have HV : Hid (sv = if k < j + 1 then 1 else 0) := by
                      show _ = _
                      rw [hsv]
                      by_cases h : k < j
                      · rw [if_pos h, if_pos (by omega)]
                      · rw [if_neg h, if_neg (by omega)]
                    clear hsv
                    have hq : (l[j].1.toList == l[k].1.toList) = false := apart_ne hap.out hjl hkl hjk
                    generalize l[j].1 = x at cW hq
                    generalize l[j].2 = b at cW
                    generalize l[k].1 = y at hq HD0
                    clear HD1
                    go_wp2_with fail
                    refine cW.mono ?_
                    rintro e w11 ⟨rfl, q, hw11⟩
                    have d0 : w11.cell? ⟨A0, k, none⟩ = some (.string y) := by rw [hw11]; exact HD0.out q
                    have I11 : Hid (InvB S S A0 N0 n (c + 1) (c + 1) l l l w2 w11) := by rw [hw11]; exact IJ.out.drewN q
                    clear cW HD0 IJ hw11
                    go_wp2_with fail
                    go_roundw
                    case rel => exact ⟨j + 1, by omega, by go_num, by rw [HV.out], I11⟩
                    case measure => simp [intOf]; omega
                · have hje : j = c + 1 := by omega
                  subst hje
                  rw [if_pos hlt]
                  clear hj' hltj
                  go_wp2_with fail
                  go_roundw
                  case rel => exact ⟨k + 1, by omega, by go_num, IJ⟩
                  case measure => simp [intOf]; omega
            · have hke : k = c + 1 := by omega
              subst hke
              have I12 : Hid _ := HR.out _ IQ.out
              clear IQ HR hk
              go_wp2_with fail
              go_roundw
              case rel => exact ⟨i + 1, c + 1, A', by omega, by omega, by go_num, rfl, rfl, I12⟩
              case measure => simp [intOf]; omega
        · rw [if_neg h8] at cS
          go_wp2_with fail
          refine cS.mono ?_
          rintro e w10 ⟨rfl, q, hw10⟩
          have I10 : Hid (InvB S S A0 N0 n (c + 1) (c + 1) l l l w2 w10) := by rw [hw10]; exact I9.out.drewN q
          clear cS I9 hw10
          go_wp2_with fail
          go_loopw [17] (fun vk wr => ∃ k : Nat, k ≤ c + 1 ∧ vk = .int .i64 k ∧ Hid (InvB S S A0 N0 n (c + 1) (c + 1) l l l w2 wr)) (fun vk _ => c + 1 - (intOf vk).toNat)
          case atStart => exact ⟨0, Nat.zero_le _, rfl, I10⟩
          case round =>
            obtain ⟨k, hk, rfl, IQ⟩ := hrel
            clear I10
            by_cases hlt : k < c + 1
            · have hkl : k < l.length := by rw [IQ.out.lenA]; exact hlt
              have cM := map_zz S S l k wr IQ.out.st (by rw [IQ.out.lenA]; exact h8) hkl hap.out
              have d0 := IQ.out.textAt k hkl
              have d1 := IQ.out.nodeAt k hkl
              generalize l[k].1 = x at cM d0
              generalize l[k].2 = b at cM d1
              have hne := neq_self b
              go_wp2_with fail
              refine cM.mono ?_
              rintro e w11 ⟨rfl, rfl⟩
              clear cM
              go_wp2_with fail
              go_roundw
              case rel => exact ⟨k + 1, by omega, by go_num, IQ⟩
              case measure => simp [intOf]; omega
            · have hke : k = c + 1 := by omega
              subst hke
              have I12 : Hid _ := HR.out _ IQ.out
              clear IQ HR hk
              go_wp2_with fail
              go_roundw
              case rel => exact ⟨i + 1, c + 1, A', by omega, by omega, by go_num, rfl, rfl, I12⟩
              case measure => simp [intOf]; omega
    · have hie : i = n := by omega
      subst hie
      clear hlt hin
      have HE : Hid (Below w'.heap.size w' wr) := HB1.out.trans (IK.out.below.mono (by rw [HS.out]; exact HB1.out.size))
      clear IK
      go_wp2_with fail
      go_ret
      exact ⟨rfl, HE.out⟩
end Go.Proofs.Qxb6601888a
