/-
  zzCloneLists, walked.
-/
import Derived.Test.Qxb6601491aRgK
import Derived.Test.Qxb6601491aNgG
import Derived.Laws.Cover3
namespace Go.Proofs.Qxb6601491a
open Go.RowKit
open Go.Extern.Stop (cell)

/-- A list of the call's own, above T. -/
def LstO (T : Nat) (w : World) (v : Value) (zs : List Int) : Prop :=
  ∃ a c, v = .slice a zs.length c ∧ zs.length ≤ maxLen ∧ (zs = [] ∨ ∃ blk, T < blk ∧ a = some ⟨blk, 0, none⟩ ∧ ∀ k (hk : k < zs.length), w.cell? ⟨blk, k, none⟩ = some (.int .i64 zs[k]))

theorem LstO.lst {T : Nat} {w : World} {v : Value} {zs : List Int} (h : LstO T w v zs) : Lst0 w v zs := by
  obtain ⟨a, c, h1, h2, h3⟩ := h
  refine ⟨a, c, h1, h2, ?_⟩
  rcases h3 with h3 | ⟨blk, -, h4, h5⟩
  · exact .inl h3
  · exact .inr ⟨blk, h4, h5⟩

theorem LstO.keep {T : Nat} {w w' : World} {v : Value} {zs : List Int} (h : LstO T w v zs) (hk : ∀ b, T < b → b < w.heap.size → w'.heap[b]? = w.heap[b]?) : LstO T w' v zs := by
  obtain ⟨a, c, h1, h2, h3⟩ := h
  refine ⟨a, c, h1, h2, ?_⟩
  rcases h3 with h3 | ⟨blk, hT, h4, h5⟩
  · exact .inl h3
  · exact .inr ⟨blk, hT, h4, fun k hk' => (World.cell?_of_block (a := ⟨blk, k, none⟩) (hk blk hT (World.block_lt_of_cell? w _ (h5 k hk')))).trans (h5 k hk')⟩

/-- The copies so far. -/
structure CL (T0 m i : Nat) (L : Nat → List Int) (vs : Nat → Value) (w0 w : World) : Prop where
  below : Below T0 w0 w
  row : ∃ cur, w.heap[T0]? = some (.cells cur 41 (0, 0)) ∧ cur.size = m ∧ (∀ r, r < i → cur[r]? = some (vs r)) ∧ ∀ r, i ≤ r → r < m → cur[r]? = some (.slice none 0 0)
  done : ∀ r, r < i → LstO T0 w (vs r) (L r)

section
variable {T0 m i : Nat} {L : Nat → List Int} {vs : Nat → Value} {w0 w w' : World}

theorem CL.lt (h : CL T0 m i L vs w0 w) : T0 < w.heap.size := by
  obtain ⟨cur, h1, _⟩ := h.row
  exact (Array.getElem?_eq_some_iff.1 h1).1

theorem CL.later (h : CL T0 m i L vs w0 w) (hb : Below w.heap.size w w') : CL T0 m i L vs w0 w' := by
  obtain ⟨cur, h1, h2⟩ := h.row
  exact ⟨h.below.trans (hb.mono (Nat.le_of_lt h.lt)), ⟨cur, (hb.block T0 h.lt).trans h1, h2⟩, fun r hr => (h.done r hr).keep fun b _ hb' => hb.block b hb'⟩

theorem CL.skip (h : CL T0 m i L vs w0 w) (hi : i < m) (hL : L i = []) : CL T0 m (i + 1) L (fun r => if r = i then .slice none 0 0 else vs r) w0 w := by
  obtain ⟨cur, h1, h2, h3, h4⟩ := h.row
  refine ⟨h.below, ⟨cur, h1, h2, fun r hr => ?_, fun r hr => h4 r (by omega)⟩, fun r hr => ?_⟩
  · by_cases e : r = i
    · subst e; simp only [if_true]; exact h4 r (Nat.le_refl _) hi
    · simp only [e, if_false]; exact h3 r (by omega)
  · by_cases e : r = i
    · subst e; simp only [if_true]; rw [hL]; exact ⟨none, 0, rfl, by simp [maxLen], .inl rfl⟩
    · simp only [e, if_false]; exact h.done r (by omega)

theorem CL.put {v : Value} (h : CL T0 m i L vs w0 w) (hi : i < m) (hv : LstO T0 w v (L i)) : CL T0 m (i + 1) L (fun r => if r = i then v else vs r) w0 (w.setCell ⟨T0, i, none⟩ v) := by
  obtain ⟨cur, h1, h2, h3, h4⟩ := h.row
  have keep : ∀ b, T0 < b → b < w.heap.size → (w.setCell ⟨T0, i, none⟩ v).heap[b]? = w.heap[b]? := fun b hb _ => Below.heap_setCell _ _ _ _ (show b ≠ T0 by omega)
  refine ⟨h.below.setCell (Nat.le_refl _) _, ⟨_, heap_setCell_same w T0 i cur 41 v h1, by simp [h2], fun r hr => ?_, fun r hr hm => ?_⟩, fun r hr => ?_⟩
  · rw [Array.getElem?_setIfInBounds]
    by_cases e : r = i
    · subst e; simp [h2, hi]
    · rw [if_neg (Ne.symm e)]; simp only [e, if_false]; exact h3 r (by omega)
  · rw [Array.getElem?_setIfInBounds, if_neg (by omega)]; exact h4 r (by omega) hm
  · by_cases e : r = i
    · subst e; simp only [if_true]; exact hv.keep keep
    · simp only [e, if_false]; exact (h.done r (by omega)).keep keep
end

/-- One copy while it is filled. -/
structure RI (T1 n k : Nat) (zs : List Int) (w0 w : World) : Prop where
  below : Below T1 w0 w
  row : ∃ cur, w.heap[T1]? = some (.cells cur 3 (0, 0)) ∧ cur.size = n ∧ ∀ j (hj : j < zs.length), j < k → cur[j]? = some (.int .i64 zs[j])

theorem RI.put {T1 n k : Nat} {zs : List Int} {w0 w : World} (h : RI T1 n k zs w0 w) (hk : k < n) (hz : k < zs.length) : RI T1 n (k + 1) zs w0 (w.setCell ⟨T1, k, none⟩ (.int .i64 zs[k])) := by
  obtain ⟨cur, h1, h2, h3⟩ := h.row
  refine ⟨h.below.setCell (Nat.le_refl _) _, _, heap_setCell_same w T1 k cur 3 _ h1, by simp [h2], fun j hj hjk => ?_⟩
  rw [Array.getElem?_setIfInBounds]
  by_cases e : k = j
  · subst e; simp [h2, hk]
  · rw [if_neg e]; exact h3 j hj (by omega)

theorem Try.info41' : (Try.prog.info? 41).map (fun i => (i.size, i.bytes)) = some (1, 24) := by kernel_rfl
theorem Try.zero41' : (Try.prog.info? 41).map (fun i => i.zero) = some (some (.slice none 0 0)) := by kernel_rfl
theorem Try.info3g : (Try.prog.info? 3).map (fun i => (i.size, i.bytes)) = some (1, 8) := by kernel_rfl
theorem Try.zero3g : ((Try.prog.info? 3).bind (·.zero)).isSome = true := by kernel_rfl

theorem CL.made {w w1 : World} {m : Nat} {L : Nat → List Int} {vs : Nat → Value} (hown : w1.ownsRow w.heap.size 41 1 (.slice (some ⟨w.heap.size, 0, none⟩) m m) m (madeCells (Value.slice none 0 0).cells (m * 1)).toList) (hgrow : w.grownBy w1 none) : CL w.heap.size m 0 L vs w w1 := by
  refine ⟨(Below.refl _ _).grown hgrow (Nat.le_refl _) (fun k hk => by cases hk), ?_, fun r hr => absurd hr (Nat.not_lt_zero _)⟩
  have hcell := hown.cellAt
  rcases hown.2 with ⟨h, _⟩ | ⟨g, cap, cur, h, _, hg, _, _, hs, _⟩
  · cases h
  · cases h
    refine ⟨cur, hg, by omega, fun r hr => absurd hr (Nat.not_lt_zero _), fun r _ hr => ?_⟩
    have h1 := hcell r (by omega)
    simp only [World.cell?, hg] at h1
    have h2 : cur[r]? = (madeCells (Value.slice none 0 0).cells (m * 1)).toList[r]? := by simpa using h1
    rw [h2]
    simp [madeCells, hr, Value.cells, Nat.mod_one]

theorem RI.made {w w1 : World} {n : Nat} {xs : List Value} {zs : List Int} (hown : w1.ownsRow w.heap.size 3 1 (.slice (some ⟨w.heap.size, 0, none⟩) n n) n xs) (hgrow : w.grownBy w1 none) : RI w.heap.size n 0 zs w w1 := by
  refine ⟨(Below.refl _ _).grown hgrow (Nat.le_refl _) (fun k hk => by cases hk), ?_⟩
  rcases hown.2 with ⟨h, _⟩ | ⟨g, cap, cur, h, _, hg, _, _, hs, _⟩
  · cases h
  · cases h
    exact ⟨cur, hg, by omega, fun j _ hj => absurd hj (Nat.not_lt_zero _)⟩

set_option maxHeartbeats 2000000 in
set_option maxRecDepth 100000 in
/-- 'zzCloneLists'. -/
theorem cloneL_zz (b : Option Addr) (m cap : Nat) (L : Nat → List Int) (vs : Nat → Value) (w : World) (hm : m ≤ 4096) (hl : ∀ i, i < m → (L i).length ≤ 131072) (hL : LstsAt w b m L vs) (hb : b = none → m = 0 ∧ cap = 0) :
    Calls Try.prog 23 #[.slice b m cap] w fun e w' => (∃ b1 vs1, e = .returned (.slice b1 m m) ∧ Lsts0 w' b1 m L vs1) ∧ Below w.heap.size w w' := by
  cases b with
  | none =>
    obtain ⟨rfl, rfl⟩ := hb rfl
    have hnil := fun w => Lib.run_eql_slice_nil (P := Try.prog) w 27 41 none 0 0 0 0 Try.underlying27
    clear hb hL hl
    go_enter Try.func23, Try.ntmps23
    go_wp2_with fail
    go_ret
    exact ⟨⟨none, vs, rfl, .inl rfl⟩, Below.refl _ _⟩
  | some ad =>
    obtain ⟨i0, z0, hi, hz0, hz1, hz2⟩ := info_row Try.info41' (by have := Try.zero41'; cases h : Try.prog.info? 41 with | none => rw [h] at this; cases this | some i => rw [h] at this; simp at this; simp [this])
    have hzz : z0 = .slice none 0 0 := by
      have := Try.zero41'
      rw [hi] at this
      simp [hz0] at this
      exact this
    subst hzz
    obtain ⟨i1, z1, hj, hy0, hy1, hy2⟩ := info_row Try.info3g Try.zero3g
    have hnil := fun w => Lib.run_eql_slice_nil (P := Try.prog) w 27 41 (some ad) m cap 0 0 Try.underlying27
    have HLA : Hid (LstsAt w (some ad) m L vs) := hL
    have HLL : Hid (∀ i, i < m → (L i).length ≤ 131072) := hl
    obtain ⟨T0, hT0⟩ : ∃ T0, T0 = w.heap.size := ⟨_, rfl⟩
    rw [← hT0]
    clear hL hb hl
    go_enter Try.func23, Try.ntmps23
    go_wp2_with (at_make; refine wpList_make_full _ rfl _ _ 27 rfl w.heap.size 41 i0 (.slice none 0 0) 1 Try.underlying27 hi hz0 hz1 .i64 .i64 _ _ m rfl rfl rfl rfl (by rw [hz2]; omega) (by unfold maxLen; omega) (Nat.le_refl _) ?_; intro w1 hown hgrow)
    have INV0 : Hid (CL w.heap.size m 0 L vs w w1) := CL.made hown hgrow
    rw [← hT0] at INV0 ⊢
    have HT0 : Hid (T0 = w.heap.size) := hT0
    clear hown hgrow hnil hi hz0 hz1 hz2 hT0
    go_loopw [4] (fun vi wr => ∃ (i : Nat) (us : Nat → Value), i ≤ m ∧ vi = .int .i64 i ∧ Hid (CL T0 m i L us w wr)) (fun vi _ => m - (intOf vi).toNat)
    case atStart => exact ⟨0, _, Nat.zero_le _, rfl, INV0⟩
    case round =>
      obtain ⟨i, us, hin, rfl, IK⟩ := hrel
      clear INV0
      by_cases hlt : i < m
      · obtain ⟨blk, off, had, hc⟩ := (HLA.out.below (HT0.out ▸ IK.out.below)).at (by omega)
        cases had
        obtain ⟨d1, x, c, hv, hml, hxn, hz⟩ := hc i hlt
        have hll := HLL.out i hlt
        rw [hv] at d1
        have hne := fun w => run_neq_slice_nil (P := Try.prog) w 41 3 x (L i).length c Try.underlying41
        cases x with
        | none =>
          have hz0 : L i = [] := by
            rcases hz with hz | ⟨_, _, h, _⟩
            · exact hz
            · cases h
          have I2 : Hid _ := IK.out.skip hlt hz0
          clear IK hc hz
          go_wp2_with fail
          go_roundw
          case rel => exact ⟨i + 1, _, by omega, by go_num, I2⟩
          case measure => simp [intOf]; omega
        | some xa =>
          obtain ⟨n1, hn1⟩ : ∃ n1, n1 = (L i).length := ⟨_, rfl⟩
          have HN1 : Hid (n1 = (L i).length) := hn1
          have HVS : Hid (vs i = .slice (some xa) n1 c) := by rw [hn1]; exact hv
          rw [← hn1] at d1 hne hll
          have HK : Hid (∀ wk, Below wr.heap.size wr wk → CL T0 m i L us w wk) := fun wk hb => IK.out.later hb
          have hT01 := IK.out.lt
          clear IK hc hz hv hml hxn hn1
          go_wp2_with (at_make; refine wpList_make_full _ rfl _ _ 41 rfl wr.heap.size 3 i1 z1 1 Try.underlying41 hj hy0 hy1 .i64 .i64 _ _ n1 rfl rfl rfl rfl (by rw [hy2]; omega) (by unfold maxLen; omega) (Nat.le_refl _) ?_; intro w2 hown hgrow)
          have INV1 : Hid (RI wr.heap.size n1 0 (L i) wr w2) := RI.made hown hgrow
          clear hown hgrow hne d1
          obtain ⟨T1, hT1⟩ : ∃ T1, T1 = wr.heap.size := ⟨_, rfl⟩
          rw [← hT1] at INV1 HK hT01 ⊢
          clear hT1
          go_loopw [6] (fun vk wk => ∃ (k : Nat), k ≤ n1 ∧ vk = .int .i64 k ∧ Hid (RI T1 n1 k (L i) wr wk)) (fun vk _ => n1 - (intOf vk).toNat)
          case atStart => exact ⟨0, Nat.zero_le _, rfl, INV1⟩
          case round =>
            obtain ⟨k, hk, rfl, IR⟩ := hrel
            clear INV1
            have hC := HK.out _ IR.out.below
            obtain ⟨d1, hLi⟩ := (HLA.out.below (HT0.out ▸ hC.below)).get i hlt
            rw [HVS.out] at d1
            by_cases hltk : k < n1
            · have hkz : k < (L i).length := by rw [← HN1.out]; exact hltk
              obtain ⟨x, c', hv, -, -, hz⟩ := hLi
              rw [HVS.out] at hv
              obtain ⟨b', o', hx, hcells⟩ : ∃ b' o', xa = ⟨b', o', none⟩ ∧ ∀ k (hk : k < (L i).length), wr.cell? ⟨b', o' + k, none⟩ = some (.int .i64 (L i)[k]) := by
                rcases hz with hz | ⟨b', o', hx, hcells⟩
                · rw [hz] at hkz; simp at hkz
                · cases hv; cases hx; exact ⟨b', o', rfl, hcells⟩
              subst hx
              have d3 := hcells k hkz
              have I2 : Hid _ := IR.out.put hltk hkz
              obtain ⟨u, d4⟩ : ∃ u, wr.cell? ⟨T1, k, none⟩ = some u := by
                obtain ⟨cur, q1, q2, -⟩ := IR.out.row
                exact ⟨cur[k]'(by omega), by simp [World.cell?, q1, q2, hltk]⟩
              have d5 : wr.frozen? ⟨T1, k, none⟩ = false := by
                obtain ⟨cur, q1, -⟩ := IR.out.row
                simp [World.frozen?, q1]
              generalize (L i)[k] = z at d3 I2
              clear hC hv hz hcells IR hkz
              go_wp2_with fail
              go_roundw
              case rel => exact ⟨k + 1, by omega, by go_num, I2⟩
              case measure => simp [intOf]; omega
            · have hke : k = n1 := by omega
              subst hke
              have hO : LstO T0 wr (.slice (some ⟨T1, 0, none⟩) k k) (L i) := by
                obtain ⟨cur, q1, q2, q3⟩ := IR.out.row
                refine ⟨_, k, by rw [HN1.out], by rw [← HN1.out]; unfold maxLen; omega, .inr ⟨T1, hT01, rfl, fun j hj => ?_⟩⟩
                simp only [World.cell?, q1]
                simpa using q3 j hj (by rw [HN1.out]; exact hj)
              have I2 : Hid _ := hC.put hlt hO
              obtain ⟨cur, q1, q2, q3, q4⟩ := hC.row
              have d4 : wr.cell? ⟨T0, i, none⟩ = some (.slice none 0 0) := by simp only [World.cell?, q1]; simpa using q4 i (Nat.le_refl _) hlt
              have d5 : wr.frozen? ⟨T0, i, none⟩ = false := by simp [World.frozen?, q1]
              clear hC hO IR q1 q2 q3 q4 hLi
              go_wp2_with fail
              go_roundw
              case rel => exact ⟨i + 1, _, by omega, by go_num, I2⟩
              case measure => simp [intOf]; omega
      · have hie : i = m := by omega
        have H1 : Hid (Lsts0 wr (some ⟨T0, 0, none⟩) m L us) := by
          subst hie
          obtain ⟨cur, q1, q2, q3, -⟩ := IK.out.row
          exact .inr ⟨T0, rfl, fun j hj => ⟨by simp only [World.cell?, q1]; simpa using q3 j hj, (IK.out.done j hj).lst⟩⟩
        have H2 : Hid (Below T0 w wr) := IK.out.below
        clear IK
        go_wp2_with fail
        go_ret
        exact ⟨⟨_, us, rfl, H1.out⟩, H2.out⟩
end Go.Proofs.Qxb6601491a
