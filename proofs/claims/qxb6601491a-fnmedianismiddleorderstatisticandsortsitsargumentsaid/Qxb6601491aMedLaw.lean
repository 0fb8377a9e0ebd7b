/-
  THE LAW FnMedianIsMiddleOrderStatisticAndSortsItsArgument AT A SLICE THAT IS NOT EMPTY, WALKED.
-/
import Derived.Test.Qxb6601491aMedWalk
namespace Go.Proofs.Qxb6601491a
open Go.RowKit Go.Sort Fl

theorem holds_cells {w : World} {blk : Nat} {zs : List Nat} (h : Holds encF w blk 0 zs.toArray) (t : Nat) (ht : t < zs.length) : w.cell? ⟨blk, t, none⟩ = some (.float .f64 (zs.getD t 0)) := by
  have := (h t (by simpa using ht)).1
  rw [Nat.zero_add] at this
  rw [this]
  simp [List.getD, ht]

theorem holds_keep {w w' : World} {blk : Nat} {zs : List Nat} (h : Holds encF w blk 0 zs.toArray) (hb : w'.heap[blk]? = w.heap[blk]?) : Holds encF w' blk 0 zs.toArray := fun j hj =>
  ⟨(World.cell?_of_block (a := ⟨blk, 0 + j, none⟩) hb).trans (h j hj).1, (World.frozen?_of_block (a := ⟨blk, 0 + j, none⟩) hb).trans (h j hj).2⟩

theorem below_drewN' {B : Nat} {w w' : World} (h : Below B w w') (q : Nat) : Below B w (w'.drewN q) := ⟨h.os, h.tape, h.output, h.size, h.block⟩

set_option maxHeartbeats 1600000 in
theorem law_some (blk off cap N : Nat) (zs : List Nat) (w : World) (hN : zs.length = N) (h0 : 0 < N) (hn : N ≤ 4096) (hblk : blk < w.heap.size) (hc : ∀ t, t < zs.length → w.cell? ⟨blk, off + t, none⟩ = some (.float .f64 (zs.getD t 0)))
    (hwf : ∀ z ∈ zs, z < 2 ^ 64) :
    Calls Try.prog 7 #[.slice (some ⟨blk, off, none⟩) N cap] w fun e w' => e = .returned (.bool true) ∧ Below w.heap.size w w' := by
  have c1 := clone_zz blk off cap zs w (by omega) (by omega) hblk hc
  rw [hN] at c1
  have HN : Hid (zs.length = N) := hN
  have HWF : Hid (∀ z ∈ zs, z < 2 ^ 64) := hwf
  clear hc hN hwf hblk
  obtain ⟨B0, hB0⟩ : ∃ B0, B0 = w.heap.size := ⟨_, rfl⟩
  rw [← hB0] at c1
  rw [← hB0]
  clear hB0
  have hz : ((N : Int) == 0) = false := beq_eq_false_iff_ne.2 (by omega)
  have hne : ((N : Int) != N) = false := by simp
  go_enter Try.func7, Try.ntmps7
  go_wp2_with (go_at_call 28; refine (bytes_yes _ _ _ _ (by omega)).mono ?_; rintro e w' ⟨rfl, rfl⟩)
  refine c1.mono ?_
  clear c1
  rintro e w1 ⟨rfl, hH1, hb1, hs1⟩
  -- the second copy
  have c2 := clone_zz B0 0 N zs w1 (by rw [HN.out]; omega) (by rw [HN.out]; omega) hs1 (fun t ht => by rw [Nat.zero_add]; exact holds_cells hH1 t ht)
  rw [HN.out] at c2
  obtain ⟨B1, hB1⟩ : ∃ B1, B1 = w1.heap.size := ⟨_, rfl⟩
  rw [← hB1] at c2 hs1
  go_wp2_with fail
  refine c2.mono ?_
  clear c2
  rintro e w2 ⟨rfl, hH2, hb2, hs2⟩
  have hH1' : Holds encF w2 B0 0 zs.toArray := holds_keep hH1 (hb2.block B0 hs1)
  have hbb : Below B0 w' w2 := hb1.trans (hb2.mono (by omega))
  clear hH1 hb1 hb2 hB1
  -- the median
  have c3 := median_zz B0 0 N zs w2 (by rw [HN.out]; omega) (by rw [HN.out]; omega) (by omega) hH1'
  rw [HN.out] at c3
  go_wp2_with fail
  refine c3.mono ?_
  clear c3
  rintro e w3 ⟨ss, g, hp, hs, rfl, hg, hH3, hgr⟩
  have hH2' : Holds encF w3 B1 0 zs.toArray := holds_keep hH2 (hgr.block B1 hs2 (by simp; omega))
  have hbb3 : Below B0 w' w3 := hbb.grown hgr (by omega) (fun k hk => by cases hk; exact Nat.le_refl _)
  clear hbb hH1' hH2 hgr hs1 hs2
  obtain ⟨G, hG⟩ : ∃ G : Nat → Nat, ∀ t, G t = zs.getD t 0 := ⟨_, fun _ => rfl⟩
  obtain ⟨S, hS⟩ : ∃ S : Nat → Nat, ∀ t, S t = ss.getD t 0 := ⟨_, fun _ => rfl⟩
  have hlen : ss.length = N := hp.length_eq.trans HN.out
  have hv3 : ∀ t, t < N → w3.cell? ⟨B0, t, none⟩ = some (.float .f64 (S t)) := fun t ht => by rw [hS]; exact holds_cells hH3 t (by omega)
  have ho3 : ∀ t, t < N → w3.cell? ⟨B1, t, none⟩ = some (.float .f64 (G t)) := fun t ht => by rw [hG]; exact holds_cells hH2' t (by rw [HN.out]; exact ht)
  have wfG : ∀ t, t < N → G t < 2 ^ 64 := fun t ht => by
    rw [hG]; have h : t < zs.length := by rw [HN.out]; exact ht
    simp only [List.getD, List.getElem?_eq_getElem h, Option.getD_some]
    exact HWF.out _ (List.getElem_mem h)
  have wfS : ∀ t, t < N → S t < 2 ^ 64 := fun t ht => by
    rw [hS]; have h : t < ss.length := by omega
    simp only [List.getD, List.getElem?_eq_getElem h, Option.getD_some]
    exact HWF.out _ (hp.mem_iff.1 (List.getElem_mem h))
  have HS : Hid (∀ k, 1 ≤ k → k < N → ltF (S k) (S (k - 1)) = false) := fun k h1 h2 => by
    rw [hS, hS]
    have a : k < ss.length := by omega
    have b : k - 1 < ss.length := by omega
    simp only [List.getD, List.getElem?_eq_getElem a, List.getElem?_eq_getElem b, Option.getD_some]
    exact lt_of_sorted hs b a (by omega)
  have HCC : Hid (∀ j, j < N → cnt (fun i => classF (G i) (G j)) N = cnt (fun i => classF (S i) (G j)) N) := fun j hj => by
    have a := cnt_all (fun y => classF y (G j)) zs G (fun t _ => hG t)
    have b := cnt_all (fun y => classF y (G j)) ss S (fun t _ => hS t)
    rw [HN.out] at a
    rw [hlen] at b
    rw [a, b, hp.countP_eq]
  have HK : ∀ k, k < N → Hid (∃ c, c < N ∧ below G c N ≤ k ∧ k < upTo G c N) := fun k hk => by
    have h := kth_exists hp hs (fun t _ => hG t) (k := k) (by rw [HN.out]; exact hk)
    rw [HN.out] at h; exact h
  have HKK : Hid (∀ k c, k < N → below G c N ≤ k → k < upTo G c N → key (G c) = key (S k)) := fun k c hk h1 h2 => by
    have h := kth_key hp hs (fun t _ => hG t) (k := k) (c := c) (by rw [HN.out]; exact hk)
    rw [HN.out] at h
    rw [h h1 h2, hS]
  have HM : Hid (key g = if N % 2 = 0 then avgKey (S (N / 2 - 1)) (S (N / 2)) else key (S (N / 2))) := by
    show key g = _
    rw [hg]; unfold medKey; rw [hlen, hS, hS]
  clear hg hp hs hG hS hlen hH3 hH2' HN HWF
  by_cases hpar : N % 2 = 0
  · -- an even count
    have e1 : ((N : Int) % 2 == 1) = false := beq_eq_false_iff_ne.2 (by omega)
    have h2 : 2 ≤ N := by omega
    have HM2 : Hid (key g = avgKey (S (N / 2 - 1)) (S (N / 2))) := by have h := HM.out; rw [if_pos hpar] at h; exact h
    have k1 := kth_zz B1 0 N N (N / 2 - 1) G w3 hn (by omega) (fun t ht => by rw [Nat.zero_add]; exact ho3 t ht) (HK _ (by omega))
    have ek : (((N / 2 - 1 : Nat)) : Int) = (N : Int) / 2 - 1 := by omega
    rw [ek] at k1
    clear HM hpar
    go_wp2_with fail
    refine k1.mono ?_
    rintro e w4 ⟨c1, hc1, hc2, hc3, rfl, q1, hw4⟩
    have ho4 : ∀ t, t < N → w4.cell? ⟨B1, t, none⟩ = some (.float .f64 (G t)) := fun t ht => by rw [hw4]; exact ho3 t ht
    have hv4 : ∀ t, t < N → w4.cell? ⟨B0, t, none⟩ = some (.float .f64 (S t)) := fun t ht => by rw [hw4]; exact hv3 t ht
    have hb4 : Below B0 w' w4 := by rw [hw4]; exact below_drewN' hbb3 _
    have k2 := kth_zz B1 0 N N (N / 2) G w4 hn (by omega) (fun t ht => by rw [Nat.zero_add]; exact ho4 t ht) (HK _ (by omega))
    have ek2 : (((N / 2 : Nat)) : Int) = (N : Int) / 2 := by omega
    rw [ek2] at k2
    have HQ1 : Hid (key (G c1) = key (S (N / 2 - 1))) := HKK.out _ _ (by omega) hc2 hc3
    clear k1 ek ek2 hw4 ho3 hv3 hbb3 hc2 hc3
    go_wp2_with fail
    refine k2.mono ?_
    rintro e w5 ⟨c2, hd1, hd2, hd3, rfl, q2, hw5⟩
    have ho5 : ∀ t, t < N → w5.cell? ⟨B1, t, none⟩ = some (.float .f64 (G t)) := fun t ht => by rw [hw5]; exact ho4 t ht
    have hv5 : ∀ t, t < N → w5.cell? ⟨B0, t, none⟩ = some (.float .f64 (S t)) := fun t ht => by rw [hw5]; exact hv4 t ht
    have hb5 : Below B0 w' w5 := by rw [hw5]; exact below_drewN' hb4 _
    have HQ2 : Hid (key (G c2) = key (S (N / 2))) := HKK.out _ _ (by omega) hd2 hd3
    have HAV : Hid (key g = avgKey (G c1) (G c2)) := by
      show _ = _
      rw [HM2.out]; exact (avg_key (wfG c1 hc1) (wfS _ (by omega)) (wfG c2 hd1) (wfS _ (by omega)) HQ1.out HQ2.out).symm
    clear k2 hw5 ho4 hv4 hb4 hd2 hd3
    generalize hx : G c1 = x at HAV HQ1
    generalize hy : G c2 = y at HAV HQ2
    clear hx hy
    have cs : ∀ z w, key g = key z → Calls Try.prog 32 #[.float .f64 g, .float .f64 z] w fun e w' => e = .returned (.bool true) ∧ w' = w := fun z w h => by
      have h2 := same_zz g z w
      rwa [show sameF g z = true by rw [sameF_key]; simp [h]] at h2
    cases hadd : Ieee.double.add x y with
    | none =>
      have hA := fun w => run_add_nan (P := Try.prog) w x y hadd
      have hQ := fun w u => run_quo_nan (P := Try.prog) w (nanAt u x y) 4611686018427387904 (half_nan (by rw [key_nanAt]))
      have HV : Hid (key g = (0, 0)) := by show _ = _; rw [HAV.out]; unfold avgKey; rw [hadd]
      clear hadd
      go_wp2_with fail
      have hv : ∀ t, t < N → (w5.drew.drew).cell? ⟨B0, t, none⟩ = some (.float .f64 (S t)) := hv5
      have ho : ∀ t, t < N → (w5.drew.drew).cell? ⟨B1, t, none⟩ = some (.float .f64 (G t)) := ho5
      have hbW : Below B0 w' (w5.drew.drew) := hb5.drew.drew
      clear hv5 ho5 hb5
      generalize w5.drew.drew = W0 at hv ho hbW ⊢
      refine (cs _ _ (by rw [HV.out, key_nanAt])).mono ?_
      rintro e W ⟨rfl, rfl⟩
      clear cs
      have HC : Hid (∀ j, j < N → ∃ C : Int, (∀ q, Calls Try.prog 35 #[.slice (some ⟨B1, 0, none⟩) N N, .float .f64 (G j)] (W.drewN q) fun e w' => e = .returned (.int .i64 C) ∧ w' = W.drewN q) ∧
          (∀ q, Calls Try.prog 35 #[.slice (some ⟨B0, 0, none⟩) N N, .float .f64 (G j)] (W.drewN q) fun e w' => e = .returned (.int .i64 C) ∧ w' = W.drewN q)) := fun j hj =>
        ⟨_, fun q => count_zz B1 0 N N (G j) G (W.drewN q) hn (fun t ht => by rw [Nat.zero_add]; exact ho t ht) wfG (wfG j hj),
          fun q => by rw [HCC.out j hj]; exact count_zz B0 0 N N (G j) S (W.drewN q) hn (fun t ht => by rw [Nat.zero_add]; exact hv t ht) wfS (wfG j hj)⟩
      clear HCC wfG wfS HK HKK
      go_wp2_with fail
      -- the two loops
      go_loopw [7] (fun vk wr => ∃ (k q : Nat), 1 ≤ k ∧ k ≤ N ∧ vk = .int .i64 k ∧ wr = W.drewN q) (fun vk _ => N - (intOf vk).toNat)
      case atStart => exact ⟨1, 0, Nat.le_refl _, by omega, rfl, rfl⟩
      case round =>
        obtain ⟨k, q, hk1, hkN, rfl, hwr⟩ := hrel
        by_cases hlt : k < N
        · have d1 : wr.cell? ⟨B0, k, none⟩ = some (.float .f64 (S k)) := by rw [hwr]; exact hv k hlt
          have d2 : wr.cell? ⟨B0, k - 1, none⟩ = some (.float .f64 (S (k - 1))) := by rw [hwr]; exact hv (k - 1) (by omega)
          have cl : ∀ w, Calls Try.prog 34 #[.float .f64 (S k), .float .f64 (S (k - 1))] w fun e w' => e = .returned (.bool false) ∧ w' = w := fun w => by
            have h := less_zz (S k) (S (k - 1)) w
            rwa [HS.out k hk1 hlt] at h
          have HW : Hid (wr = W.drewN q) := hwr
          clear hwr hv ho
          go_wp2_with fail
          go_quiet ((go_at_call 34; exact Calls.quiet_of_same (cl _)))
          go_wp2_with fail
          go_roundw
          case rel => exact ⟨k + 1, q + nq, by omega, by omega, by go_num, by rw [HW.out, World.drewN_drewN]⟩
          case measure => simp [intOf]; omega
        · subst hwr
          have hge : N ≤ k := by omega
          clear hlt
          go_wp2_with fail
          go_loopw [8] (fun vk wr => ∃ (j q : Nat), j ≤ N ∧ vk = .int .i64 j ∧ wr = W.drewN q) (fun vk _ => N - (intOf vk).toNat)
          case atStart => exact ⟨0, q, Nat.zero_le _, rfl, rfl⟩
          case round =>
            obtain ⟨j, q2, hjN, rfl, hwr⟩ := hrel
            by_cases hlt : j < N
            · have d1 : wr.cell? ⟨B1, j, none⟩ = some (.float .f64 (G j)) := by rw [hwr]; exact ho j hlt
              obtain ⟨C, cA0, cB0⟩ := HC.out j hlt
              have cA := fun n => cA0 (q2 + n)
              have cB := fun n => cB0 (q2 + n)
              have HW : Hid (wr = W.drewN q2) := hwr
              have eW : ∀ n, W.drewN (q2 + n) = wr.drewN n := fun n => by rw [hwr, World.drewN_drewN]
              simp only [eW] at cA cB
              clear hwr hv ho eW cA0 cB0
              go_wp2_with fail
              go_quiet (first | (go_at_call_of 35 (Value.slice (some ⟨B1, 0, none⟩) N N); exact Calls.quiet_of_same (cA _)) | (go_at_call_of 35 (Value.slice (some ⟨B0, 0, none⟩) N N); exact Calls.quiet_of_same (cB _)))
              go_wp2_with fail
              go_roundw
              case rel => exact ⟨j + 1, q2 + nq, by omega, by go_num, by rw [HW.out, World.drewN_drewN]⟩
              case measure => simp [intOf]; omega
            · subst hwr
              go_wp2_with fail
              go_ret
              exact ⟨rfl, below_drewN' hbW _⟩
    | some r =>
      have hA := fun w => run_float_arith (P := Try.prog) w .add 61 .f64 x y r hadd
      cases hdiv : Ieee.double.div r two with
      | none =>
        have hQ := fun w => run_quo_nan (P := Try.prog) w r 4611686018427387904 hdiv
        have HV : Hid (key g = (0, 0)) := by show _ = _; rw [HAV.out]; unfold avgKey; rw [hadd]; simp only; rw [hdiv]
        clear hadd hdiv
        go_wp2_with fail
        have hv : ∀ t, t < N → (w5.drew).cell? ⟨B0, t, none⟩ = some (.float .f64 (S t)) := hv5
        have ho : ∀ t, t < N → (w5.drew).cell? ⟨B1, t, none⟩ = some (.float .f64 (G t)) := ho5
        have hbW : Below B0 w' (w5.drew) := hb5.drew
        clear hv5 ho5 hb5
        generalize w5.drew = W0 at hv ho hbW ⊢
        refine (cs _ _ (by rw [HV.out, key_nanAt])).mono ?_
        rintro e W ⟨rfl, rfl⟩
        clear cs
        have HC : Hid (∀ j, j < N → ∃ C : Int, (∀ q, Calls Try.prog 35 #[.slice (some ⟨B1, 0, none⟩) N N, .float .f64 (G j)] (W.drewN q) fun e w' => e = .returned (.int .i64 C) ∧ w' = W.drewN q) ∧
            (∀ q, Calls Try.prog 35 #[.slice (some ⟨B0, 0, none⟩) N N, .float .f64 (G j)] (W.drewN q) fun e w' => e = .returned (.int .i64 C) ∧ w' = W.drewN q)) := fun j hj =>
          ⟨_, fun q => count_zz B1 0 N N (G j) G (W.drewN q) hn (fun t ht => by rw [Nat.zero_add]; exact ho t ht) wfG (wfG j hj),
            fun q => by rw [HCC.out j hj]; exact count_zz B0 0 N N (G j) S (W.drewN q) hn (fun t ht => by rw [Nat.zero_add]; exact hv t ht) wfS (wfG j hj)⟩
        clear HCC wfG wfS HK HKK
        go_wp2_with fail
        -- the two loops
        go_loopw [7] (fun vk wr => ∃ (k q : Nat), 1 ≤ k ∧ k ≤ N ∧ vk = .int .i64 k ∧ wr = W.drewN q) (fun vk _ => N - (intOf vk).toNat)
        case atStart => exact ⟨1, 0, Nat.le_refl _, by omega, rfl, rfl⟩
        case round =>
          obtain ⟨k, q, hk1, hkN, rfl, hwr⟩ := hrel
          by_cases hlt : k < N
          · have d1 : wr.cell? ⟨B0, k, none⟩ = some (.float .f64 (S k)) := by rw [hwr]; exact hv k hlt
            have d2 : wr.cell? ⟨B0, k - 1, none⟩ = some (.float .f64 (S (k - 1))) := by rw [hwr]; exact hv (k - 1) (by omega)
            have cl : ∀ w, Calls Try.prog 34 #[.float .f64 (S k), .float .f64 (S (k - 1))] w fun e w' => e = .returned (.bool false) ∧ w' = w := fun w => by
              have h := less_zz (S k) (S (k - 1)) w
              rwa [HS.out k hk1 hlt] at h
            have HW : Hid (wr = W.drewN q) := hwr
            clear hwr hv ho
            go_wp2_with fail
            go_quiet ((go_at_call 34; exact Calls.quiet_of_same (cl _)))
            go_wp2_with fail
            go_roundw
            case rel => exact ⟨k + 1, q + nq, by omega, by omega, by go_num, by rw [HW.out, World.drewN_drewN]⟩
            case measure => simp [intOf]; omega
          · subst hwr
            have hge : N ≤ k := by omega
            clear hlt
            go_wp2_with fail
            go_loopw [8] (fun vk wr => ∃ (j q : Nat), j ≤ N ∧ vk = .int .i64 j ∧ wr = W.drewN q) (fun vk _ => N - (intOf vk).toNat)
            case atStart => exact ⟨0, q, Nat.zero_le _, rfl, rfl⟩
            case round =>
              obtain ⟨j, q2, hjN, rfl, hwr⟩ := hrel
              by_cases hlt : j < N
              · have d1 : wr.cell? ⟨B1, j, none⟩ = some (.float .f64 (G j)) := by rw [hwr]; exact ho j hlt
                obtain ⟨C, cA0, cB0⟩ := HC.out j hlt
                have cA := fun n => cA0 (q2 + n)
                have cB := fun n => cB0 (q2 + n)
                have HW : Hid (wr = W.drewN q2) := hwr
                have eW : ∀ n, W.drewN (q2 + n) = wr.drewN n := fun n => by rw [hwr, World.drewN_drewN]
                simp only [eW] at cA cB
                clear hwr hv ho eW cA0 cB0
                go_wp2_with fail
                go_quiet (first | (go_at_call_of 35 (Value.slice (some ⟨B1, 0, none⟩) N N); exact Calls.quiet_of_same (cA _)) | (go_at_call_of 35 (Value.slice (some ⟨B0, 0, none⟩) N N); exact Calls.quiet_of_same (cB _)))
                go_wp2_with fail
                go_roundw
                case rel => exact ⟨j + 1, q2 + nq, by omega, by go_num, by rw [HW.out, World.drewN_drewN]⟩
                case measure => simp [intOf]; omega
              · subst hwr
                go_wp2_with fail
                go_ret
                exact ⟨rfl, below_drewN' hbW _⟩
      | some q =>
        have hQ := fun w => run_float_arith (P := Try.prog) w .quo 61 .f64 r 4611686018427387904 q hdiv
        have HV : Hid (key g = key q) := by show _ = _; rw [HAV.out]; unfold avgKey; rw [hadd]; simp only; rw [hdiv]
        clear hadd hdiv
        go_wp2_with fail
        have hv : ∀ t, t < N → (w5).cell? ⟨B0, t, none⟩ = some (.float .f64 (S t)) := hv5
        have ho : ∀ t, t < N → (w5).cell? ⟨B1, t, none⟩ = some (.float .f64 (G t)) := ho5
        have hbW : Below B0 w' (w5) := hb5
        clear hv5 ho5 hb5
        generalize w5 = W0 at hv ho hbW ⊢
        refine (cs _ _ (HV.out)).mono ?_
        rintro e W ⟨rfl, rfl⟩
        clear cs
        have HC : Hid (∀ j, j < N → ∃ C : Int, (∀ q, Calls Try.prog 35 #[.slice (some ⟨B1, 0, none⟩) N N, .float .f64 (G j)] (W.drewN q) fun e w' => e = .returned (.int .i64 C) ∧ w' = W.drewN q) ∧
            (∀ q, Calls Try.prog 35 #[.slice (some ⟨B0, 0, none⟩) N N, .float .f64 (G j)] (W.drewN q) fun e w' => e = .returned (.int .i64 C) ∧ w' = W.drewN q)) := fun j hj =>
          ⟨_, fun q => count_zz B1 0 N N (G j) G (W.drewN q) hn (fun t ht => by rw [Nat.zero_add]; exact ho t ht) wfG (wfG j hj),
            fun q => by rw [HCC.out j hj]; exact count_zz B0 0 N N (G j) S (W.drewN q) hn (fun t ht => by rw [Nat.zero_add]; exact hv t ht) wfS (wfG j hj)⟩
        clear HCC wfG wfS HK HKK
        go_wp2_with fail
        -- the two loops
        go_loopw [7] (fun vk wr => ∃ (k q : Nat), 1 ≤ k ∧ k ≤ N ∧ vk = .int .i64 k ∧ wr = W.drewN q) (fun vk _ => N - (intOf vk).toNat)
        case atStart => exact ⟨1, 0, Nat.le_refl _, by omega, rfl, rfl⟩
        case round =>
          obtain ⟨k, q, hk1, hkN, rfl, hwr⟩ := hrel
          by_cases hlt : k < N
          · have d1 : wr.cell? ⟨B0, k, none⟩ = some (.float .f64 (S k)) := by rw [hwr]; exact hv k hlt
            have d2 : wr.cell? ⟨B0, k - 1, none⟩ = some (.float .f64 (S (k - 1))) := by rw [hwr]; exact hv (k - 1) (by omega)
            have cl : ∀ w, Calls Try.prog 34 #[.float .f64 (S k), .float .f64 (S (k - 1))] w fun e w' => e = .returned (.bool false) ∧ w' = w := fun w => by
              have h := less_zz (S k) (S (k - 1)) w
              rwa [HS.out k hk1 hlt] at h
            have HW : Hid (wr = W.drewN q) := hwr
            clear hwr hv ho
            go_wp2_with fail
            go_quiet ((go_at_call 34; exact Calls.quiet_of_same (cl _)))
            go_wp2_with fail
            go_roundw
            case rel => exact ⟨k + 1, q + nq, by omega, by omega, by go_num, by rw [HW.out, World.drewN_drewN]⟩
            case measure => simp [intOf]; omega
          · subst hwr
            have hge : N ≤ k := by omega
            clear hlt
            go_wp2_with fail
            go_loopw [8] (fun vk wr => ∃ (j q : Nat), j ≤ N ∧ vk = .int .i64 j ∧ wr = W.drewN q) (fun vk _ => N - (intOf vk).toNat)
            case atStart => exact ⟨0, q, Nat.zero_le _, rfl, rfl⟩
            case round =>
              obtain ⟨j, q2, hjN, rfl, hwr⟩ := hrel
              by_cases hlt : j < N
              · have d1 : wr.cell? ⟨B1, j, none⟩ = some (.float .f64 (G j)) := by rw [hwr]; exact ho j hlt
                obtain ⟨C, cA0, cB0⟩ := HC.out j hlt
                have cA := fun n => cA0 (q2 + n)
                have cB := fun n => cB0 (q2 + n)
                have HW : Hid (wr = W.drewN q2) := hwr
                have eW : ∀ n, W.drewN (q2 + n) = wr.drewN n := fun n => by rw [hwr, World.drewN_drewN]
                simp only [eW] at cA cB
                clear hwr hv ho eW cA0 cB0
                go_wp2_with fail
                go_quiet (first | (go_at_call_of 35 (Value.slice (some ⟨B1, 0, none⟩) N N); exact Calls.quiet_of_same (cA _)) | (go_at_call_of 35 (Value.slice (some ⟨B0, 0, none⟩) N N); exact Calls.quiet_of_same (cB _)))
                go_wp2_with fail
                go_roundw
                case rel => exact ⟨j + 1, q2 + nq, by omega, by go_num, by rw [HW.out, World.drewN_drewN]⟩
                case measure => simp [intOf]; omega
              · subst hwr
                go_wp2_with fail
                go_ret
                exact ⟨rfl, below_drewN' hbW _⟩
  · -- an odd count
    have e1 : ((N : Int) % 2 == 1) = true := beq_iff_eq.2 (by omega)
    have HM2 : Hid (key g = key (S (N / 2))) := by have h := HM.out; rw [if_neg hpar] at h; exact h
    have k2 := kth_zz B1 0 N N (N / 2) G w3 hn (by omega) (fun t ht => by rw [Nat.zero_add]; exact ho3 t ht) (HK _ (by omega))
    have ek2 : (((N / 2 : Nat)) : Int) = (N : Int) / 2 := by omega
    rw [ek2] at k2
    clear HM hpar ek2
    go_wp2_with fail
    refine k2.mono ?_
    rintro e w5 ⟨c2, hd1, hd2, hd3, rfl, q2, hw5⟩
    have ho5 : ∀ t, t < N → w5.cell? ⟨B1, t, none⟩ = some (.float .f64 (G t)) := fun t ht => by rw [hw5]; exact ho3 t ht
    have hv5 : ∀ t, t < N → w5.cell? ⟨B0, t, none⟩ = some (.float .f64 (S t)) := fun t ht => by rw [hw5]; exact hv3 t ht
    have hb5 : Below B0 w' w5 := by rw [hw5]; exact below_drewN' hbb3 _
    have HV : Hid (key g = key (G c2)) := HM2.out.trans (HKK.out _ _ (by omega) hd2 hd3).symm
    have cs : ∀ z w, key g = key z → Calls Try.prog 32 #[.float .f64 g, .float .f64 z] w fun e w' => e = .returned (.bool true) ∧ w' = w := fun z w h => by
      have h2 := same_zz g z w
      rwa [show sameF g z = true by rw [sameF_key]; simp [h]] at h2
    clear k2 hw5 ho3 hv3 hbb3 hd2 hd3
    go_wp2_with fail
    have hv : ∀ t, t < N → (w5).cell? ⟨B0, t, none⟩ = some (.float .f64 (S t)) := hv5
    have ho : ∀ t, t < N → (w5).cell? ⟨B1, t, none⟩ = some (.float .f64 (G t)) := ho5
    have hbW : Below B0 w' (w5) := hb5
    clear hv5 ho5 hb5
    generalize w5 = W0 at hv ho hbW ⊢
    refine (cs _ _ (HV.out)).mono ?_
    rintro e W ⟨rfl, rfl⟩
    clear cs
    have HC : Hid (∀ j, j < N → ∃ C : Int, (∀ q, Calls Try.prog 35 #[.slice (some ⟨B1, 0, none⟩) N N, .float .f64 (G j)] (W.drewN q) fun e w' => e = .returned (.int .i64 C) ∧ w' = W.drewN q) ∧
        (∀ q, Calls Try.prog 35 #[.slice (some ⟨B0, 0, none⟩) N N, .float .f64 (G j)] (W.drewN q) fun e w' => e = .returned (.int .i64 C) ∧ w' = W.drewN q)) := fun j hj =>
      ⟨_, fun q => count_zz B1 0 N N (G j) G (W.drewN q) hn (fun t ht => by rw [Nat.zero_add]; exact ho t ht) wfG (wfG j hj),
        fun q => by rw [HCC.out j hj]; exact count_zz B0 0 N N (G j) S (W.drewN q) hn (fun t ht => by rw [Nat.zero_add]; exact hv t ht) wfS (wfG j hj)⟩
    clear HCC wfG wfS HK HKK
    go_wp2_with fail
    -- the two loops
    go_loopw [7] (fun vk wr => ∃ (k q : Nat), 1 ≤ k ∧ k ≤ N ∧ vk = .int .i64 k ∧ wr = W.drewN q) (fun vk _ => N - (intOf vk).toNat)
    case atStart => exact ⟨1, 0, Nat.le_refl _, by omega, rfl, rfl⟩
    case round =>
      obtain ⟨k, q, hk1, hkN, rfl, hwr⟩ := hrel
      by_cases hlt : k < N
      · have d1 : wr.cell? ⟨B0, k, none⟩ = some (.float .f64 (S k)) := by rw [hwr]; exact hv k hlt
        have d2 : wr.cell? ⟨B0, k - 1, none⟩ = some (.float .f64 (S (k - 1))) := by rw [hwr]; exact hv (k - 1) (by omega)
        have cl : ∀ w, Calls Try.prog 34 #[.float .f64 (S k), .float .f64 (S (k - 1))] w fun e w' => e = .returned (.bool false) ∧ w' = w := fun w => by
          have h := less_zz (S k) (S (k - 1)) w
          rwa [HS.out k hk1 hlt] at h
        have HW : Hid (wr = W.drewN q) := hwr
        clear hwr hv ho
        go_wp2_with fail
        go_quiet ((go_at_call 34; exact Calls.quiet_of_same (cl _)))
        go_wp2_with fail
        go_roundw
        case rel => exact ⟨k + 1, q + nq, by omega, by omega, by go_num, by rw [HW.out, World.drewN_drewN]⟩
        case measure => simp [intOf]; omega
      · subst hwr
        have hge : N ≤ k := by omega
        clear hlt
        go_wp2_with fail
        go_loopw [8] (fun vk wr => ∃ (j q : Nat), j ≤ N ∧ vk = .int .i64 j ∧ wr = W.drewN q) (fun vk _ => N - (intOf vk).toNat)
        case atStart => exact ⟨0, q, Nat.zero_le _, rfl, rfl⟩
        case round =>
          obtain ⟨j, q2, hjN, rfl, hwr⟩ := hrel
          by_cases hlt : j < N
          · have d1 : wr.cell? ⟨B1, j, none⟩ = some (.float .f64 (G j)) := by rw [hwr]; exact ho j hlt
            obtain ⟨C, cA0, cB0⟩ := HC.out j hlt
            have cA := fun n => cA0 (q2 + n)
            have cB := fun n => cB0 (q2 + n)
            have HW : Hid (wr = W.drewN q2) := hwr
            have eW : ∀ n, W.drewN (q2 + n) = wr.drewN n := fun n => by rw [hwr, World.drewN_drewN]
            simp only [eW] at cA cB
            clear hwr hv ho eW cA0 cB0
            go_wp2_with fail
            go_quiet (first | (go_at_call_of 35 (Value.slice (some ⟨B1, 0, none⟩) N N); exact Calls.quiet_of_same (cA _)) | (go_at_call_of 35 (Value.slice (some ⟨B0, 0, none⟩) N N); exact Calls.quiet_of_same (cB _)))
            go_wp2_with fail
            go_roundw
            case rel => exact ⟨j + 1, q2 + nq, by omega, by go_num, by rw [HW.out, World.drewN_drewN]⟩
            case measure => simp [intOf]; omega
          · subst hwr
            go_wp2_with fail
            go_ret
            exact ⟨rfl, below_drewN' hbW _⟩
end Go.Proofs.Qxb6601491a
