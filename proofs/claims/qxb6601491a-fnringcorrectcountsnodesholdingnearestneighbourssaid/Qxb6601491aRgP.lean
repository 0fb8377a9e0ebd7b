/-
  FnRingCorrectCountsNodesHoldingNearestNeighbours, walked.
-/
import Derived.Test.Qxb6601491aRgQ
import Derived.Test.Qxb6601491aRgG
import Derived.Test.Qxb6601491aRgF
namespace Go.Proofs.Qxb6601491a
open Go.RowKit
open Go.Extern.Stop (cell)

attribute [local go_sem ↓] ld33
attribute [local go_sem] guard33

set_option maxHeartbeats 2000000 in
set_option maxRecDepth 100000 in
theorem main_rg (a : Option Addr) (n cap : Nat) (A : Nat → List UInt8) (b : Option Addr) (m capb : Nat) (L : Nat → List Int) (vs : Nat → Value) (w : World) (hn : n ≤ maxLen) (hm : m ≤ maxLen) (hA : AdrAt w a n A) (ha : a = none → n = 0 ∧ cap = 0) (hL : LstsAt w b m L vs) (hb : b = none → m = 0 ∧ capb = 0) :
    Calls Try.prog 5 #[.slice a n cap, .slice b m capb] w fun e w' => e = .returned (.bool true) ∧ Below w.heap.size w w' := by
  have HA : Hid (AdrAt w a n A) := hA
  have HL : Hid (LstsAt w b m L vs) := hL
  have HAN : Hid (a = none → n = 0 ∧ cap = 0) := ha
  have HBN : Hid (b = none → m = 0 ∧ capb = 0) := hb
  have HNM : Hid (n ≤ maxLen ∧ m ≤ maxLen) := ⟨hn, hm⟩
  have c20 := bytes_rg a n cap b m capb L vs w hn hm hL
  unfold maxLen at hn hm
  clear hA hL ha hb
  go_enter Try.func5, Try.ntmps5
  go_wp2_with fail
  refine c20.mono ?_
  rintro e w1 ⟨⟨r1, rfl⟩, rfl⟩
  clear c20
  cases r1
  · go_wp2_with fail
    go_ret
    exact ⟨rfl, Below.refl _ _⟩
  · have c21 := big_rg a n cap b m capb L vs w1 HNM.out.1 HNM.out.2 HL.out
    go_wp2_with fail
    refine c21.mono ?_
    rintro e w2 ⟨⟨r2, rfl, hsm⟩, rfl⟩
    clear c21
    cases r2
    · obtain ⟨hn4, hm4, hll⟩ := hsm rfl
      have HLL : Hid (∀ i, i < m → (L i).length ≤ 131072) := hll
      clear hsm hll HNM
      by_cases hmn : m < n
      · go_wp2_with fail
        go_ret
        exact ⟨rfl, Below.refl _ _⟩
      · go_wp2_with fail
        go_loopw [6] (fun vi wr => ∃ (i q : Nat), i ≤ n ∧ vi = .int .i64 i ∧ Hid (wr = w2.drewN q) ∧ Hid (∀ i', i' < i → ∀ j, j < i' → A i' ≠ A j) ∧ Hid (∀ i', i' < i → Up (L i'))) (fun vi _ => n - (intOf vi).toNat)
        case atStart => exact ⟨0, 0, Nat.zero_le _, rfl, rfl, fun i hi => absurd hi (Nat.not_lt_zero _), fun i hi => absurd hi (Nat.not_lt_zero _)⟩
        case round =>
          obtain ⟨i, q, hin, rfl, HW, HDD, HUP⟩ := hrel
          by_cases hlt : i < n
          · go_wp2_with fail
            go_loopw [7] (fun vj wr => ∃ (j q : Nat), j ≤ i ∧ vj = .int .i64 j ∧ Hid (wr = w2.drewN q) ∧ Hid (∀ j', j' < j → A i ≠ A j')) (fun vj _ => i - (intOf vj).toNat)
            case atStart => exact ⟨0, q, Nat.zero_le _, rfl, HW, fun j hj => absurd hj (Nat.not_lt_zero _)⟩
            case round =>
              clear HW
              obtain ⟨j, q1, hji, rfl, HW, HNE⟩ := hrel
              by_cases hltj : j < i
              · obtain ⟨blk, off, ha, hc⟩ := HA.out.at (by omega)
                obtain ⟨hl1, hr1⟩ := hc i hlt
                obtain ⟨hl2, hr2⟩ := hc j (by omega)
                have k1 : ∀ q', (vld 33 ⟨blk, off + i * 20, none⟩).run Try.prog (wr.drewN q') = .ok (addrV (A i)) (wr.drewN q') := fun q' => by
                  rw [HW.out, World.drewN_drewN]; exact load33 (w := w2.drewN (q1 + q')) hl1 hr1
                have k2 : ∀ q', (vld 33 ⟨blk, off + j * 20, none⟩).run Try.prog (wr.drewN q') = .ok (addrV (A j)) (wr.drewN q') := fun q' => by
                  rw [HW.out, World.drewN_drewN]; exact load33 (w := w2.drewN (q1 + q')) hl2 hr2
                have heq := eql33 hl1 hl2
                have HE : Hid ((A i == A j) = false → ∀ j', j' < j + 1 → A i ≠ A j') := fun h j' hj' => by
                  by_cases e : j' = j
                  · subst e; simpa using h
                  · exact HNE.out j' (by omega)
                rw [ha]
                clear hc hr1 hr2 HNE hl1 hl2
                cases hq : (A i == A j) with
                | true =>
                  rw [hq] at heq
                  go_wp2_with fail
                  go_quiet (fail)
                  go_wp2_with fail
                  go_ret
                  exact ⟨rfl, by rw [HW.out, World.drewN_drewN]; exact ⟨rfl, rfl, rfl, Nat.le_refl _, fun _ _ => rfl⟩⟩
                | false =>
                  rw [hq] at heq
                  have HE2 : Hid (∀ j', j' < j + 1 → A i ≠ A j') := HE.out hq
                  clear HE hq
                  go_wp2_with fail
                  go_quiet (fail)
                  go_wp2_with fail
                  refine ⟨?_, ?_⟩
                  · first
                      | exact ⟨j + 1, q1 + nq, by omega, by go_num, by show _ = _; rw [HW.out, World.drewN_drewN], HE2⟩
                      | (repeat apply Exists.intro
                         refine ⟨?_, rfl⟩
                         exact ⟨j + 1, q1 + nq, by omega, by go_num, by show _ = _; rw [HW.out, World.drewN_drewN], HE2⟩)
                  · simp [intOf]; omega
              · have hje : j = i := by omega
                have HNA : Hid (∀ j', j' < i → A i ≠ A j') := by rw [hje] at HNE; exact HNE
                clear HNE hje
                obtain ⟨lb, lo, hb, hcl⟩ := HL.out.at (by omega)
                obtain ⟨d0, x, c, hv, -, -, hz⟩ := hcl i (by omega)
                rw [hv] at d0
                have hll := HLL.out i (by omega)
                obtain ⟨zl, hzl⟩ : ∃ zl, zl = (L i).length := ⟨_, rfl⟩
                have HZL : Hid (zl = (L i).length) := hzl
                have HCE : Hid (∀ k (hk : k < (L i).length), ∃ b' o', x = some ⟨b', o', none⟩ ∧ w2.cell? ⟨b', o' + k, none⟩ = some (.int .i64 (L i)[k])) := fun k hk => by
                  rcases hz with hz | ⟨b', o', hx, hcells⟩
                  · rw [hz] at hk; simp at hk
                  · exact ⟨b', o', hx, hcells k hk⟩
                have HD0 : Hid (w2.cell? ⟨lb, lo + i, none⟩ = some (.slice x zl c)) := by rw [hzl]; exact d0
                rw [← hzl] at hll
                clear hcl hv hz hzl d0
                subst hb
                go_wp2_with fail
                go_loopw [8] (fun vk wr => ∃ (k q : Nat), k ≤ zl ∧ vk = .int .i64 ((k + 1 : Nat) : Int) ∧ Hid (wr = w2.drewN q) ∧ Hid (∀ k' (hk : k' + 1 < (L i).length), k' < k → (L i)[k'] < (L i)[k' + 1])) (fun vk _ => zl + 1 - (intOf vk).toNat)
                case atStart => exact ⟨0, q1, Nat.zero_le _, rfl, HW, fun k _ hk => absurd hk (Nat.not_lt_zero _)⟩
                case round =>
                  clear HW
                  obtain ⟨k, q2, hk, rfl, HW, HU⟩ := hrel
                  have d0 : wr.cell? ⟨lb, lo + i, none⟩ = some (.slice x zl c) := by rw [HW.out]; exact HD0.out
                  by_cases hltk : k + 1 < zl
                  · have hk1 : k < (L i).length := by rw [← HZL.out]; omega
                    have hk2 : k + 1 < (L i).length := by rw [← HZL.out]; omega
                    obtain ⟨b', o', hx, e1⟩ := HCE.out k hk1
                    obtain ⟨b'', o'', hx', e2⟩ := HCE.out (k + 1) hk2
                    rw [hx] at hx'
                    cases hx'
                    have f1 : wr.cell? ⟨b', o' + k, none⟩ = some (.int .i64 (L i)[k]) := by rw [HW.out]; exact e1
                    have f2 : wr.cell? ⟨b', o' + (k + 1), none⟩ = some (.int .i64 (L i)[k + 1]) := by rw [HW.out]; exact e2
                    have HU2 : Hid ((L i)[k] < (L i)[k + 1] → ∀ k' (hk : k' + 1 < (L i).length), k' < k + 1 → (L i)[k'] < (L i)[k' + 1]) := fun h k' hk' hkk => by
                      by_cases e : k' = k
                      · subst e; exact h
                      · exact HU.out k' hk' (by omega)
                    rw [hx] at d0
                    clear e1 e2 HU
                    generalize (L i)[k] = z1 at f1 HU2
                    generalize (L i)[k + 1] = z2 at f2 HU2
                    by_cases hge : z2 ≤ z1
                    · go_wp2_with fail
                      go_quiet (fail)
                      go_wp2_with fail
                      go_ret
                      exact ⟨rfl, by rw [HW.out, World.drewN_drewN]; exact ⟨rfl, rfl, rfl, Nat.le_refl _, fun _ _ => rfl⟩⟩
                    · have HU3 := HU2.out (by omega)
                      have HU4 : Hid (∀ k' (hk : k' + 1 < (L i).length), k' < k + 1 → (L i)[k'] < (L i)[k' + 1]) := HU3
                      clear HU2 HU3
                      go_wp2_with fail
                      go_quiet (fail)
                      go_wp2_with fail
                      refine ⟨?_, ?_⟩
                      · first
                          | exact ⟨k + 1, q2 + nq, by omega, by go_num, by show _ = _; rw [HW.out, World.drewN_drewN], HU4⟩
                          | (repeat apply Exists.intro
                             refine ⟨?_, rfl⟩
                             exact ⟨k + 1, q2 + nq, by omega, by go_num, by show _ = _; rw [HW.out, World.drewN_drewN], HU4⟩)
                      · simp [intOf]; omega
                  · have HD2 : Hid (∀ i', i' < i + 1 → ∀ j, j < i' → A i' ≠ A j) := fun i' hi' j hj => by
                      by_cases e : i' = i
                      · subst e; exact HNA.out j hj
                      · exact HDD.out i' (by omega) j hj
                    have HU5 : Hid (∀ i', i' < i + 1 → Up (L i')) := fun i' hi' => by
                      by_cases e : i' = i
                      · subst e
                        intro k' hk'
                        exact HU.out k' hk' (by rw [← HZL.out] at hk'; omega)
                      · exact HUP.out i' (by omega)
                    clear HU HCE
                    go_wp2_with fail
                    refine ⟨?_, ?_⟩
                    · first
                        | exact ⟨i + 1, q2, by omega, by go_num, HW, HD2, HU5⟩
                        | (repeat apply Exists.intro
                           refine ⟨?_, rfl⟩
                           exact ⟨i + 1, q2, by omega, by go_num, HW, HD2, HU5⟩)
                    · simp [intOf]; omega
          · have HDN : Hid (∀ i j, i < n → j < n → num (A i) = num (A j) → i = j) := fun x y hx hy e => by
              obtain ⟨_, _, _, hc⟩ := HA.out.at (by omega)
              have hxy := num_inj (A x) (A y) (by rw [(hc x hx).1, (hc y hy).1]) e
              rcases Nat.lt_trichotomy x y with l | l | l
              · exact absurd hxy.symm (HDD.out y (by omega) x l)
              · exact l
              · exact absurd hxy (HDD.out x (by omega) y l)
            have HUN : Hid (∀ i, i < n → (L i).Pairwise (· ≤ ·)) := fun x hx => (HUP.out x (by omega)).pairwise
            have HB1 : Hid (Below w2.heap.size w2 wr) := by rw [HW.out]; exact ⟨rfl, rfl, rfl, Nat.le_refl _, fun _ _ => rfl⟩
            have c22 := cloneA_zz a n cap A wr hn4 (HA.out.below HB1.out) HAN.out
            clear HDD HUP HW
            go_wp2_with fail
            refine c22.mono ?_
            rintro e w3 ⟨a1, rfl, hA3, hb3⟩
            have HA3 : Hid (AdrAt w3 a1 n A) := hA3
            have HB3 : Hid (Below w2.heap.size w2 w3) := HB1.out.trans (hb3.mono HB1.out.size)
            clear c22 hA3 hb3 HB1
            have c23 := cloneL_zz b m capb L vs w3 hm4 HLL.out (HL.out.below HB3.out) HBN.out
            go_wp2_with fail
            refine c23.mono ?_
            rintro e w4 ⟨⟨b1, vs1, rfl, hL4⟩, hb4⟩
            have HA4 : Hid (AdrAt w4 a1 n A) := HA3.out.below hb4
            have HL4 : Hid (Lsts0 w4 b1 m L vs1) := hL4
            have HB4 : Hid (Below w2.heap.size w2 w4) := HB3.out.trans (hb4.mono HB3.out.size)
            clear c23 hL4 hb4 HB3 HA3
            have c25 := toA_zz a1 n n A w4 hn4 HA4.out (fun e => by rcases HA4.out with h | ⟨_, _, h, _⟩; exact ⟨h, h⟩; rw [e] at h; cases h)
            go_wp2_with fail
            refine c25.mono ?_
            rintro e w5 ⟨a2, rfl, hA5, hb5⟩
            have HA5 : Hid (AdrAt w5 a1 n A) := HA4.out.below hb5
            have HL5 : Hid (Lsts0 w5 b1 m L vs1) := HL4.out.below hb5
            have HB5 : Hid (Below w2.heap.size w2 w5) := HB4.out.trans (hb5.mono HB4.out.size)
            have c24 := zzring_zz a2 n A b1 m L vs1 w5 hn4 (by omega) hm4 hA5 HL5.out HUN.out HLL.out HDN.out
            clear c25 hA5 hb5 HB4 HA4 HL4
            go_wp2_with fail
            refine c24.mono ?_
            rintro e w6 ⟨⟨r, hR, hP, rfl⟩, hb6⟩
            obtain ⟨inv, hinv⟩ := ring_inv hR
            have HR : Hid (Ring n (256 ^ 20) (fun j => num (A j)) r) := hR
            have HI : Hid (∀ i, i < n → inv i < n ∧ r (inv i) = i) := hinv
            have HGT : Hid (cn (fun i => okUp L r n (inv i) (min 2 (n - 1))) n = cn (fun p => okUp L r n p (min 2 (n - 1))) n) := counts_agree hR hP L hinv _
            have HA6 : Hid (AdrAt w6 a1 n A) := HA5.out.below hb6
            have HL6 : Hid (Lsts0 w6 b1 m L vs1) := HL5.out.below hb6
            have HB6 : Hid (Below w2.heap.size w2 w6) := HB5.out.trans (hb6.mono HB5.out.size)
            clear c24 hR hP hb6 HB5 HA5 HL5 hinv
            generalize cn (fun p => okUp L r n p (min 2 (n - 1))) n = G at HGT ⊢
            go_wp2_with fail
            go_loopw [10, 11] (fun vc vi wr => ∃ (i c : Nat), i ≤ n ∧ c ≤ i ∧ vi = .int .i64 i ∧ vc = .int .i64 c ∧ Hid (c = cn (fun i => okUp L r n (inv i) (min 2 (n - 1))) i) ∧ Hid (Below w6.heap.size w6 wr)) (fun _ vi _ => n - (intOf vi).toNat)
            case atStart => exact ⟨0, 0, Nat.zero_le _, Nat.le_refl _, rfl, rfl, rfl, Below.refl _ _⟩
            case round =>
              obtain ⟨i, c, hin, hci, rfl, rfl, HC, HBR⟩ := hrel
              by_cases hlt : i < n
              · obtain ⟨bb, hb1, hcl⟩ := (HL6.out.below HBR.out).at (by omega)
                obtain ⟨d1, hli⟩ := hcl i (by omega)
                have c26 := holds_zz a1 n n A (vs1 i) (L i) i wr hn4 hlt (HA6.out.below HBR.out) hli
                have HC1 : Hid (cn (fun i => okUp L r n (inv i) (min 2 (n - 1))) (i + 1) = cn (fun i => okUp L r n (inv i) (min 2 (n - 1))) i + if okUp L r n (inv i) (min 2 (n - 1)) then 1 else 0) := rfl
                rw [hb1]
                clear hcl hli
                go_wp2_with fail
                refine c26.mono ?_
                rintro e w7 ⟨⟨B, C, rfl, hB, hC⟩, hb7⟩
                have hk : held (L i) B C = okUp L r n (inv i) (min 2 (n - 1)) := by
                  obtain ⟨h1, h2⟩ := HI.out i hlt
                  have := held_ok HR.out L h1 (B := B) (C := C) (by rw [h2]; exact hB) (by rw [h2]; exact hC)
                  rwa [h2] at this
                have HB7 : Hid (Below w6.heap.size w6 w7) := HBR.out.trans (hb7.mono HBR.out.size)
                rw [hk]
                clear c26 hB hC hb7 hk d1 HBR
                rcases (show okUp L r n (inv i) (min 2 (n - 1)) = true ∨ okUp L r n (inv i) (min 2 (n - 1)) = false by cases okUp L r n (inv i) (min 2 (n - 1)) <;> simp) with hok | hok
                · have HC2 : Hid (c + 1 = cn (fun i => okUp L r n (inv i) (min 2 (n - 1))) (i + 1)) := by
                    show _ = _
                    rw [HC1.out, ← HC.out, hok]; rfl
                  rw [hok]
                  clear hok HC1
                  go_wp2_with fail
                  refine ⟨?_, ?_⟩
                  · first
                      | exact ⟨i + 1, c + 1, by omega, by omega, by go_num, by go_num, HC2, HB7⟩
                      | (repeat apply Exists.intro
                         refine ⟨?_, rfl⟩
                         exact ⟨i + 1, c + 1, by omega, by omega, by go_num, by go_num, HC2, HB7⟩)
                  · simp [intOf]; omega
                · have HC2 : Hid (c = cn (fun i => okUp L r n (inv i) (min 2 (n - 1))) (i + 1)) := by
                    show _ = _
                    rw [HC1.out, ← HC.out, hok]; rfl
                  rw [hok]
                  clear hok HC1
                  go_wp2_with fail
                  refine ⟨?_, ?_⟩
                  · first
                      | exact ⟨i + 1, c, by omega, by omega, by go_num, by go_num, HC2, HB7⟩
                      | (repeat apply Exists.intro
                         refine ⟨?_, rfl⟩
                         exact ⟨i + 1, c, by omega, by omega, by go_num, by go_num, HC2, HB7⟩)
                  · simp [intOf]; omega
              · have hie : i = n := by omega
                have hcG : c = G := by rw [HC.out, hie]; exact HGT.out
                have HB8 : Hid (Below w2.heap.size w2 wr) := HB6.out.trans (HBR.out.mono HB6.out.size)
                clear HC HBR HGT
                subst hcG
                go_wp2_with fail
                go_ret
                exact ⟨by simp, HB8.out⟩
    · go_wp2_with fail
      go_ret
      exact ⟨rfl, Below.refl _ _⟩
end Go.Proofs.Qxb6601491a
