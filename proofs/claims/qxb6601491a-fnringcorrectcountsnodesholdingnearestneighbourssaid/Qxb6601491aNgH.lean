/-
  zzToNodes, walked.
-/
import Derived.Test.Qxb6601491aNgG
namespace Go.Proofs.Qxb6601491a
open Go.RowKit
open Go.Extern.Stop (cell)

attribute [local go_sem ↓] ld33 ld68 st68 st46 st48 bd46 bd48

theorem Try.info48 : (Try.prog.info? 48).map (fun i => (i.size, i.bytes)) = some (22, 64) := by kernel_rfl
theorem Try.info46 : (Try.prog.info? 46).map (fun i => (i.size, i.bytes)) = some (22, 22) := by kernel_rfl
theorem Try.zero48 : ((Try.prog.info? 48).bind (·.zero)).isSome = true := by kernel_rfl
theorem Try.zero46 : ((Try.prog.info? 46).bind (·.zero)).isSome = true := by kernel_rfl

set_option maxHeartbeats 1000000 in
set_option maxRecDepth 100000 in
theorem to_some (blk off n cap : Nat) (D : Nat → NodeD) (vs : Nat → Value) (w : World) (h0 : 0 < n) (hn : n ≤ 4096) (hne : ∀ i, i < n → (D i).ne ≤ 43690) (hA : NodesAt w (some ⟨blk, off, none⟩) n D vs) :
    Calls Try.prog 13 #[.slice (some ⟨blk, off, none⟩) n cap] w fun e w' => ∃ vs', e = .returned (.slice (some ⟨w.heap.size, 0, none⟩) n n) ∧ NodesAt w' (some ⟨w.heap.size, 0, none⟩) n D vs' ∧ Below w.heap.size w w' := by
  obtain ⟨i0, z0, hi, hz0, hz1, hz2⟩ := info_row Try.info48 Try.zero48
  obtain ⟨i1, z1, hj, hy0, hy1, hy2⟩ := info_row Try.info46 Try.zero46
  have hnil := fun w => Lib.run_eql_slice_nil (P := Try.prog) w 22 37 (some ⟨blk, off, none⟩) n cap 0 0 Try.underlying22
  have HA : Hid (NodesAt w (some ⟨blk, off, none⟩) n D vs) := hA
  have HNE : Hid (∀ i, i < n → (D i).ne ≤ 43690) := hne
  have HL : Hid (∀ j, j < n → (D j).addr.length = 20) := fun j hj => (hA.get j hj).1
  obtain ⟨T0, hT0⟩ : ∃ T0, T0 = w.heap.size := ⟨_, rfl⟩
  rw [← hT0]
  clear hA hne
  go_enter Try.func13, Try.ntmps13
  go_wp2_with (at_make; refine wpList_make_full _ rfl _ _ 31 rfl w.heap.size 48 i0 z0 22 Try.underlying31 hi hz0 hz1 .i64 .i64 _ _ n rfl rfl rfl rfl (by rw [hz2]; omega) (by unfold maxLen; omega) (Nat.le_refl _) ?_; intro w1 hown hgrow)
  have INV0 : Hid (CloneInv w.heap.size 48 n 0 D vs w w1) := ⟨RowInv.made hown hgrow, fun j hj => absurd hj (Nat.not_lt_zero _)⟩
  rw [← hT0] at INV0 ⊢
  clear hown hgrow hnil hi hz0 hz1 hz2
  have HT0 : Hid (T0 = w.heap.size) := hT0
  clear hT0
  go_loopw [4] (fun vi wr => ∃ (i : Nat) (ws : Nat → Value), i ≤ n ∧ vi = .int .i64 i ∧ Hid (CloneInv T0 48 n i D ws w wr)) (fun vi _ => n - (intOf vi).toNat)
  case atStart => exact ⟨0, _, Nat.zero_le _, rfl, INV0⟩
  case round =>
    obtain ⟨i, ws, hin, rfl, IK⟩ := hrel
    clear INV0
    by_cases hlt : i < n
    · have hNr := HA.out.below (HT0.out ▸ IK.out.rows.below)
      obtain ⟨hl, hr, hE⟩ := hNr.get i hlt
      have f1 := (node_cells hl hr).2.2
      obtain ⟨ea, ecap, hv, hnl, hem, hE2⟩ := hE
      have hem2 := HNE.out i hlt
      rw [hv] at f1
      have f0 := (node_cells hl hr).2.1
      have l0 := load33 hl (node_cells hl hr).1
      have HI : Hid (CloneInv T0 48 n i D ws w wr) := IK
      obtain ⟨me, hme⟩ : ∃ me, me = (D i).ne := ⟨_, rfl⟩
      have HME : Hid (me = (D i).ne) := hme
      rw [← hme] at f1 hem2
      clear IK
      cases ea with
      | none =>
        have e0 : me = 0 := by
          rcases hE2 with h | ⟨_, _, h, _⟩
          · omega
          · cases h
        obtain ⟨w2, hst, HI2⟩ := clone_store (ea := none) (me := 0) (ec := 0) Try.size48 HI.out hlt HL.out ⟨none, 0, by rw [← HME.out, e0], fun _ => rfl, by rw [← HME.out, e0]; exact Nat.zero_le _, .inl (by rw [← HME.out, e0])⟩
        have H2 : Hid _ := HI2
        have l0' : (vld 33 ⟨blk, off + i * 22, none⟩).run Try.prog wr.drew = .ok (addrV (D i).addr) wr.drew := load33 (w := wr.drew) hl (node_cells hl hr).1
        have hbd := build48 (D i) hl none 0 0
        subst e0
        clear hr hNr HI HI2 l0 hE2 hv hme hnl HME
        go_wp2_with fail
        go_region
        all_goals
          go_wp2_with fail
          go_roundw
          case rel => exact ⟨i + 1, _, by omega, by go_num, H2⟩
          case measure => simp [intOf]; omega
      | some ea =>
        have HR : Hid (wr.rangeAt blk (off + i * 22) (nodeCells (D i) (vs i))) := hr
        have HVI : Hid (vs i = .slice (some ea) me ecap) := by show _ = _; rw [hv, ← HME.out]
        have HE2 : Hid (me = 0 ∨ ∃ eb eo, ea = ⟨eb, eo, none⟩ ∧ ∀ k, k < me → ((D i).edges k).addr.length = 20 ∧ wr.rangeAt eb (eo + k * 22) (edgeCells ((D i).edges k))) := by
          rcases hE2 with h | ⟨eb, eo, h1, h2⟩
          · exact .inl (by rw [← HME.out] at h; exact h)
          · cases h1
            exact .inr ⟨eb, eo, rfl, fun k hk => h2 k (by rw [← HME.out]; exact hk)⟩
        have HLE : Hid ((D i).addr.length = 20) := hl
        clear hE2 hr hl hNr hv hme hnl hem l0
        go_wp2_with (at_make; refine wpList_make_full _ rfl _ _ 42 rfl wr.heap.size 46 i1 z1 22 Try.underlying42 hj hy0 hy1 .i64 .i64 _ _ me rfl rfl rfl rfl (by rw [hy2]; omega) (by unfold maxLen; omega) (Nat.le_refl _) ?_; intro w1 hown hgrow)
        have R0 : Hid (RowInv wr.heap.size 46 me 0 (fun k => edgeCells ((D i).edges k)) wr w1) := RowInv.made hown hgrow
        clear hown hgrow f1 f0
        obtain ⟨E0, hE0⟩ : ∃ E0, E0 = wr.heap.size := ⟨_, rfl⟩
        have HE0 : Hid (E0 = wr.heap.size) := hE0
        rw [← hE0] at R0 ⊢
        clear hE0
        have FX : Hid (∀ wk, Below E0 wr wk → wk.cell? ⟨blk, off + i * 22 + 21, none⟩ = some (.slice (some ea) me ecap) ∧ wk.cell? ⟨blk, off + i * 22 + 20, none⟩ = some (.string (D i).tr) ∧ (vld 33 ⟨blk, off + i * 22, none⟩).run Try.prog wk = .ok (addrV (D i).addr) wk) := fun wk hb => by
          have hr2 := rangeAt_below HR.out (HE0.out ▸ hb)
          obtain ⟨c1, c2, c3⟩ := node_cells HLE.out hr2
          exact ⟨by rw [c3, HVI.out], c2, load33 HLE.out c1⟩
        have GX : Hid (∀ wk k, Below E0 wr wk → k < me → ∃ eb eo, ea = ⟨eb, eo, none⟩ ∧ (vld 68 ⟨eb, eo + k * 22, none⟩).run Try.prog wk = .ok (aggV (edgeCells ((D i).edges k))) wk) := fun wk k hb hk => by
          rcases HE2.out with h | ⟨eb, eo, h1, h2⟩
          · omega
          · exact ⟨eb, eo, h1, ldV_of Try.underlying68 rfl (by rw [Try.size68, edge_len (h2 k hk).1]) (rangeAt_below (h2 k hk).2 (HE0.out ▸ hb))⟩
        have LX : Hid (∀ k, k < me → ((D i).edges k).addr.length = 20) := fun k hk => by
          rcases HE2.out with h | ⟨eb, eo, h1, h2⟩
          · omega
          · exact (h2 k hk).1
        have EX : Hid (∀ wk, RowInv E0 46 me me (fun k => edgeCells ((D i).edges k)) wr wk → ∃ w2, (vst 48 ⟨T0, i * 22, none⟩ (aggV (nodeCells (D i) (.slice (some ⟨E0, 0, none⟩) me me)))).run Try.prog wk.drew = .ok () w2 ∧ CloneInv T0 48 n (i + 1) D (fun j => if j = i then .slice (some ⟨E0, 0, none⟩) me me else ws j) w w2) := fun wk hR => by
          refine clone_store Try.size48 (HI.out.later (HE0.out ▸ hR.below)) hlt HL.out ?_
          have := hR.edges (T := T0) (cap := me) (by have := HI.out.rows.lt; rw [HE0.out]; exact this) (by unfold maxLen; omega) LX.out
          rw [← HME.out]; exact this
        clear HR HVI HE2 HI
        go_loopw [6] (fun vk wk => ∃ (k : Nat), k ≤ me ∧ vk = .int .i64 k ∧ Hid (RowInv E0 46 me k (fun k => edgeCells ((D i).edges k)) wr wk)) (fun vk _ => me - (intOf vk).toNat)
        case atStart => exact ⟨0, Nat.zero_le _, rfl, R0⟩
        case round =>
          obtain ⟨k, hk, rfl, RK⟩ := hrel
          clear R0
          obtain ⟨f1, f0, -⟩ := FX.out _ RK.out.below
          by_cases hltk : k < me
          · obtain ⟨eb, eo, hea, ld⟩ := GX.out _ k RK.out.below hltk
            rw [hea] at f1
            obtain ⟨w3, hs3, hb3, hr3, -⟩ := box68 _ ((D i).edges k) (LX.out k hltk)
            have RK3 := RK.out.later hb3
            obtain ⟨g1, g2, g3⟩ := edge_cells (LX.out k hltk) hr3
            have g0 := load33 (LX.out k hltk) g1
            rw [Nat.zero_add] at g2 g3
            have hbd := build46 ((D i).edges k) (LX.out k hltk)
            have hst := stV_of (w := w3) (ty := 46) (cs := edgeCells ((D i).edges k)) (by rw [Try.size46, edge_len (LX.out k hltk)]) (by rw [edge_len (LX.out k hltk)]; exact RK3.there k hltk) (edge_one _)
            have R2 : Hid _ := RK3.put hltk (fun j hj => edge_len (LX.out j hj))
            generalize World.setCells _ E0 (k * 22) (edgeCells ((D i).edges k)) = w2 at hst R2
            clear RK hea RK3 hb3 hr3 g1
            go_wp2_with fail
            go_roundw
            case rel => exact ⟨k + 1, by omega, by go_num, R2⟩
            case measure => simp [intOf]; omega
          · have hke : k = me := by omega
            subst hke
            obtain ⟨-, -, l0⟩ := FX.out _ RK.out.below.drew
            obtain ⟨w2, hst, HI2⟩ := EX.out _ RK.out
            have H2 : Hid _ := HI2
            have hbd := build48 (D i) HLE.out (some ⟨E0, 0, none⟩) k k
            clear HI2 RK
            go_wp2_with fail
            go_region
            all_goals
              go_wp2_with fail
              go_roundw
              case rel => exact ⟨i + 1, _, by omega, by go_num, H2⟩
              case measure => simp [intOf]; omega
    · have hie : i = n := by omega
      subst hie
      have H1 : Hid (NodesAt wr (some ⟨T0, 0, none⟩) i D ws) := IK.out.nodes HL.out
      have H2 : Hid (Below T0 w wr) := IK.out.rows.below
      clear IK
      go_wp2_with fail
      go_ret
      exact ⟨ws, rfl, H1.out, H2.out⟩
set_option maxHeartbeats 400000 in
theorem to_empty (a : Option Addr) (cap : Nat) (w : World) (ha : a = none → cap = 0) :
    Calls Try.prog 13 #[.slice a 0 cap] w fun e w' => ∃ a1, e = .returned (.slice a1 0 0) ∧ Below w.heap.size w w' := by
  cases a with
  | none =>
    obtain rfl := ha rfl
    clear ha
    have hnil := fun w => Lib.run_eql_slice_nil (P := Try.prog) w 22 37 none 0 0 0 0 Try.underlying22
    go_enter Try.func13, Try.ntmps13
    go_wp2
    go_ret
    exact ⟨none, rfl, Below.refl _ _⟩
  | some a =>
    clear ha
    obtain ⟨i0, z0, hi, hz0, hz1, hz2⟩ := info_row Try.info48 Try.zero48
    have hnil := fun w => Lib.run_eql_slice_nil (P := Try.prog) w 22 37 (some a) 0 cap 0 0 Try.underlying22
    go_enter Try.func13, Try.ntmps13
    go_wp2_with (at_make; refine wpList_make_full _ rfl _ _ 31 rfl w.heap.size 48 i0 z0 22 Try.underlying31 hi hz0 hz1 .i64 .i64 _ _ 0 rfl rfl rfl rfl (by rw [hz2]; omega) (by unfold maxLen; omega) (Nat.le_refl _) ?_; intro w1 hown hgrow)
    have hb0 : Below w.heap.size w w1 := (Below.refl _ _).grown hgrow (Nat.le_refl _) (fun k hk => by cases hk)
    clear hown hgrow hi hz0 hz1 hz2 hnil
    refine wp_loop_rounds 1 ?_
    rw [rounds_succ]
    go_wp2
    go_ret
    exact ⟨_, rfl, hb0⟩

/-- 'zzToNodes', whatever the nodes. -/
theorem to_zz (a : Option Addr) (n cap : Nat) (D : Nat → NodeD) (vs : Nat → Value) (w : World) (hn : n ≤ 4096) (hne : ∀ i, i < n → (D i).ne ≤ 43690) (hA : NodesAt w a n D vs) (ha : a = none → cap = 0) :
    Calls Try.prog 13 #[.slice a n cap] w fun e w' => ∃ a1 vs', e = .returned (.slice a1 n n) ∧ NodesAt w' a1 n D vs' ∧ Below w.heap.size w w' := by
  by_cases h0 : n = 0
  · subst h0
    refine (to_empty a cap w ha).mono ?_
    rintro e w' ⟨a1, rfl, hb⟩
    exact ⟨a1, vs, rfl, .inl rfl, hb⟩
  · obtain ⟨blk, off, rfl, -⟩ := hA.at (by omega)
    refine (to_some blk off n cap D vs w (by omega) hn hne hA).mono ?_
    rintro e w' ⟨vs', rfl, h1, h2⟩
    exact ⟨_, vs', rfl, h1, h2⟩
end Go.Proofs.Qxb6601491a
