/-
  newGraph, walked: its first statement, in the walk.
-/
import Derived.Test.Qxb6601491aNgU
import Derived.Test.Qxb6601491aRes
import Derived.Deep.RegionHeld3
import Derived.Deep.RegionWith
namespace Go.Proofs.Qxb6601491a
open Go.RowKit
open Go.Extern.Stop (cell)

attribute [local go_sem ↓] ld33 ld34 ld48 ld46 st34 st48 st46 bs25 apAny ld70 st70

/-- A goal that is met in several places, shown once. -/
theorem via {X G : Prop} (f : X → G) (x : X) : G := f x

theorem via3 {α β γ : Type} {H P : α → β → γ → Prop} {G : Prop} (f : (∀ a b c, H a b c → P a b c) → G) (x : ∀ a b c, H a b c → P a b c) : G := f x

theorem found_len (D : Nat → NodeD) (n : Nat) (E : Nat → EdgeD) : ∀ k, (found D n E k).length ≤ k ∧ (foundF D n E k).length ≤ k
  | 0 => ⟨Nat.le_refl _, Nat.le_refl _⟩
  | k + 1 => by
    obtain ⟨h1, h2⟩ := found_len D n E k
    unfold found foundF
    constructor
    · split <;> simp <;> omega
    · split
      · simp; omega
      · split <;> simp <;> omega

/-- An index of a row, read. -/
theorem IRow.read {T : Nat} {v : Value} {zs : List Int} {w : World} {a : Option Addr} {n c : Nat} (h : IRow T v zs w) (hv : v = .slice a n c) (k : Nat) (hk : k < zs.length) : ∃ g, a = some ⟨g, 0, none⟩ ∧ w.cell? ⟨g, k, none⟩ = some (.int .i64 zs[k]) := by
  subst hv
  rcases h.own.2 with ⟨-, h0⟩ | ⟨g, cap, cur, e, h1, h2, h3⟩
  · omega
  · cases e
    refine ⟨g, rfl, ?_⟩
    rw [h.own.cellAt k (by omega)]
    simp [Qxb6601491a.ints, hk]

theorem routes_zz (l : Int) (w : World) : Calls Try.prog 45 #[.int .u8 l] w fun e w' => e = .returned (.bool (!(l == 2))) ∧ w' = w := by
  go_enter Try.func45, Try.ntmps45
  go_wp2
  go_ret
  exact ⟨rfl, rfl⟩

set_option maxHeartbeats 1000000 in
set_option maxRecDepth 100000 in
theorem graph_all (a : Option Addr) (n cap : Nat) (D : Nat → NodeD) (vs : Nat → Value) (w : World) (hn : n ≤ 4096) (hne : ∀ i, i < n → (D i).ne ≤ 43690) (hA : NodesAt w a n D vs) :
    Calls Try.prog 37 #[.slice a n cap] w fun e w' => ∃ b0 b1 b2 b3 b4 vl vf va, e = .returned (aggV (grV n b0 b1 b2 b3 b4)) ∧ Gr b0 b1 b2 b3 b4 n D vl vf va w' ∧ Below w.heap.size w w' := by
  have HA : Hid (NodesAt w a n D vs) := hA
  have HNE : Hid (∀ i, i < n → (D i).ne ≤ 43690) := hne
  clear hA hne
  go_enter Try.func37, Try.ntmps37
  go_wp2_with fail
  refine wp_region_any (by kernel_rfl) ?_
  refine reg1_whole ⟨rfl, ⟨_, rfl, rfl, rfl, rfl, by kernel_rfl⟩, ⟨_, rfl, rfl, rfl, rfl, by kernel_rfl⟩, ⟨_, rfl, rfl, rfl, rfl, by kernel_rfl⟩, ⟨_, rfl, rfl, rfl, rfl, by kernel_rfl⟩, ⟨_, rfl, rfl, rfl, rfl, by kernel_rfl⟩, ⟨_, rfl, rfl, rfl, rfl, by kernel_rfl⟩,
    ⟨_, rfl, rfl, rfl, rfl, by kernel_rfl, by kernel_rfl⟩, ⟨_, rfl, rfl, rfl, rfl, by kernel_rfl⟩, by kernel_rfl, by kernel_rfl, by kernel_rfl⟩
    ⟨by kernel_rfl, ⟨_, rfl, rfl, rfl, rfl⟩, by kernel_rfl, by kernel_rfl, ⟨_, rfl, rfl, rfl, rfl⟩, by kernel_rfl, by kernel_rfl, ⟨_, rfl, rfl, rfl, rfl⟩, by kernel_rfl, by kernel_rfl, ⟨_, rfl, rfl, rfl, rfl⟩, by kernel_rfl, by kernel_rfl, ⟨_, rfl, rfl, rfl, rfl⟩, by kernel_rfl, by kernel_rfl, ⟨_, rfl, rfl, rfl, rfl⟩, by kernel_rfl, by kernel_rfl, ⟨_, rfl, rfl, rfl, rfl⟩, by kernel_rfl, by kernel_rfl, ⟨_, rfl, rfl, rfl, rfl⟩, by kernel_rfl, by kernel_rfl, ⟨_, rfl, rfl, rfl, rfl⟩, by kernel_rfl, by kernel_rfl, ⟨_, rfl, rfl, rfl, rfl⟩, by kernel_rfl, by kernel_rfl⟩ hn (by rfl) (by rfl) (fun _ _ d _ _ h => by cases d <;> exact h) ?_
  intro b0 b1 b2 b3 b4 b5 w' hG
  simp only [act6, pures, Act.put, List.setIfInBounds_toArray, List.set_cons_succ, List.set_cons_zero]
  have I0 : Hid (G1 w.heap.size b0 b1 b2 b3 b4 b5 n 0 D w w') := G1.start hG rfl
  clear hG
  unfold ptV slV mpV
  obtain ⟨B, hB⟩ : ∃ B, B = w.heap.size := ⟨_, rfl⟩
  have HB : Hid (B = w.heap.size) := hB
  rw [← hB] at I0 ⊢
  clear hB
  have HL : Hid (∀ j, j < n → (D j).addr.length = 20) := fun j hj => by
    obtain ⟨_, _, _, h⟩ := HA.out.at (by omega)
    exact (h j hj).1
  go_wp2_with fail
  go_loopw [32] (fun vi wr => ∃ (i : Nat), i ≤ n ∧ vi = .int .i64 i ∧ Hid (G1 B b0 b1 b2 b3 b4 b5 n i D w wr)) (fun vi _ => n - (intOf vi).toNat)
  case atStart => exact ⟨0, Nat.zero_le _, rfl, I0⟩
  case round =>
    obtain ⟨i, hin, rfl, IK⟩ := hrel
    clear I0
    by_cases hlt : i < n
    · obtain ⟨blk, off, ha, -⟩ := HA.out.at (by omega)
      have hNr := HA.out.below (HB.out ▸ IK.out.below)
      rw [ha] at hNr
      obtain ⟨hl, hr, ea, ecap, hv, -, -, -⟩ := hNr.get i hlt
      rw [hv] at hr
      have ld := ldV_of (ty := 48) Try.underlying48 rfl (by rw [Try.size48, node_len hl]) hr
      obtain ⟨w3, hs3, hb3, hr3, hz3⟩ := box48 wr (D i) ea (D i).ne ecap hl
      have I3 := IK.out.later hb3
      obtain ⟨g1, -, -⟩ := node_cells hl hr3
      have g0 := load34 hl g1
      have c0 : w3.cell? ⟨b5, 0, none⟩ = some (.slice (some ⟨b0, 0, none⟩) n n) := by simp [World.cell?, I3.g, grV, slV]
      have hst : (vst 34 ⟨b0, i * 20, none⟩ (addrV (D i).addr)).run Try.prog w3 = .ok () (w3.setCells b0 (i * 20) ((D i).addr.map cell)) := stV_of (w := w3) (b := b0) (o := i * 20) (ty := 34) (cs := (D i).addr.map cell) (by rw [Try.size34]; simp [hl]) (by simp only [List.length_map, hl]; exact I3.addrs.there i hlt) (addr_one _)
      obtain ⟨-, -, -, -, a05, -, -, -, a15⟩ := I3.apart
      have t0 := Touch.setCells b0 (i * 20) ((D i).addr.map cell) w3
      have hI4 := I3.idx.touch t0 (Ne.symm I3.apart.1)
      obtain ⟨o, hup, hx⟩ := run_put hI4 hl (i : Int)
      have I5 : Hid _ := I3.step hlt HL.out hx
      have hwr : wr.heap.size < w3.heap.size := by omega
      have g4 : (vld 34 ⟨wr.heap.size, 0, none⟩).run Try.prog (w3.setCells b0 (i * 20) ((D i).addr.map cell)) = .ok (addrV (D i).addr) (w3.setCells b0 (i * 20) ((D i).addr.map cell)) := by
        refine load34 hl (t0.rangeAt g1 ?_)
        obtain ⟨cur, q1, -⟩ := IK.out.addrs.row
        have := (Array.getElem?_eq_some_iff.1 q1).1
        omega
      have c1 : (w3.setCells b0 (i * 20) ((D i).addr.map cell)).cell? ⟨b5, 1, none⟩ = some (.map (some b1)) := by
        rw [World.cell?_of_block (a := ⟨b5, 1, none⟩) (t0.block b5 (Array.getElem?_eq_some_iff.1 I3.g).1 (Ne.symm a05))]
        simp [World.cell?, I3.g, grV, mpV]
      rw [ha]
      clear ha hNr hr hv hr3 hb3 I3 IK t0 hI4 hx g1
      generalize ChangeMaps.setBlock (w3.setCells b0 (i * 20) ((D i).addr.map cell)) b1 o = w5 at hup I5
      generalize w3.setCells b0 (i * 20) ((D i).addr.map cell) = w4 at hst hup g4 c1
      go_wp2_with fail
      go_roundw
      case rel => exact ⟨i + 1, by omega, by go_num, I5⟩
      case measure => simp [intOf]; omega
    · have hie : i = n := by omega
      subst hie
      clear hlt hin
      have C0 : Hid (Core B wr.heap.size wr.heap.size b0 b1 b2 b3 b4 b5 i 0 D (fun _ => .slice none 0 0) (fun _ => .slice none 0 0) (fun _ => .slice none 0 0) w wr) := IK.out.core
      clear IK
      generalize wr.heap.size = C at C0
      go_wp2_with fail
      go_loopw [51] (fun vi wr => ∃ (r T : Nat) (vl vf va : Nat → Value), r ≤ i ∧ vi = .int .i64 r ∧ Hid (Core B C T b0 b1 b2 b3 b4 b5 i r D vl vf va w wr) ∧ Hid (∀ q, r ≤ q → vl q = .slice none 0 0 ∧ vf q = .slice none 0 0 ∧ va q = .slice none 0 0)) (fun vi _ => i - (intOf vi).toNat)
      case atStart => exact ⟨0, _, _, _, _, Nat.zero_le _, rfl, C0, fun _ _ => ⟨rfl, rfl, rfl⟩⟩
      case round =>
        obtain ⟨r, T, vl, vf, va, hrn, rfl, CK, TD⟩ := hrel
        clear C0
        by_cases hlt : r < i
        · obtain ⟨blk, off, ha, -⟩ := HA.out.at (by omega)
          have hNr := HA.out.below (HB.out ▸ CK.out.below)
          rw [ha] at hNr
          obtain ⟨hl, hr, ea, ecap, hv, -, hem, hE⟩ := hNr.get r hlt
          rw [hv] at hr
          have ld := ldV_of (ty := 48) Try.underlying48 rfl (by rw [Try.size48, node_len hl]) hr
          obtain ⟨w3, hs3, hb3, hr3, hz3⟩ := box48 wr (D r) ea (D r).ne ecap hl
          obtain ⟨-, -, g2⟩ := node_cells hl hr3
          rw [Nat.zero_add] at g2
          obtain ⟨t1, t2, t3⟩ := TD.out r (Nat.le_refl _)
          have M3 : Hid (Mid B C wr.heap.size b0 b1 b2 b3 b4 b5 i r D vl vf va [] [] w w3) := (CK.out.mid t1 t2).later hb3
          have hme := HNE.out r hlt
          have EX : Hid (∀ wk, Below B w wk → ∀ k, k < (D r).ne → ∃ eb eo, ea = some ⟨eb, eo, none⟩ ∧ ((D r).edges k).addr.length = 20 ∧ (vld 46 ⟨eb, eo + k * 22, none⟩).run Try.prog wk = .ok (aggV (edgeCells ((D r).edges k))) wk) := fun wk hb k hk => by
            have hN := HA.out.below (HB.out ▸ hb)
            rw [ha] at hN
            obtain ⟨-, -, ea', ecap', e1, -, -, h2⟩ := hN.get r hlt
            rw [hv] at e1
            cases e1
            rcases h2 with h2 | ⟨eb, eo, h3, h4⟩
            · omega
            · exact ⟨eb, eo, h3, (h4 k hk).1, ldV_of Try.underlying46 rfl (by rw [Try.size46, edge_len (h4 k hk).1]) (h4 k hk).2⟩
          obtain ⟨me, hme'⟩ : ∃ me, me = (D r).ne := ⟨_, rfl⟩
          have HME : Hid (me = (D r).ne) := hme'
          rw [← hme'] at ld hs3 hme EX g2
          obtain ⟨T1, hT1⟩ : ∃ T1, T1 = wr.heap.size := ⟨_, rfl⟩
          rw [← hT1] at M3
          have TD2 : Hid (∀ q, r < q → vl q = .slice none 0 0 ∧ vf q = .slice none 0 0 ∧ va q = .slice none 0 0) := fun q hq => TD.out q (by omega)
          have HVA : Hid (va r = .slice none 0 0) := t3
          rw [ha]
          clear ha hNr hr hv hr3 hb3 CK t1 t2 t3 hE hem hz3 hl hme' TD
          go_wp2_with fail
          rw [← hT1]
          clear hT1 hs3 ld g2
          go_loopw [59] (fun vk wk => ∃ (k : Nat) (vl' vf' : Nat → Value), k ≤ me ∧ vk = .int .i64 k ∧ Hid (Mid B C T1 b0 b1 b2 b3 b4 b5 i r D vl' vf' va (found D i (D r).edges k) (foundF D i (D r).edges k) w wk) ∧ Hid (∀ q, r < q → vl' q = .slice none 0 0 ∧ vf' q = .slice none 0 0)) (fun vk _ => me - (intOf vk).toNat)
          case atStart => exact ⟨0, vl, vf, Nat.zero_le _, rfl, M3, fun q hq => ⟨(TD2.out q hq).1, (TD2.out q hq).2.1⟩⟩
          case round =>
            obtain ⟨k, vl', vf', hk, rfl, MK, NK⟩ := hrel
            clear M3
            by_cases hltk : k < me
            · obtain ⟨eb, eo, hea, gl, ld⟩ := EX.out _ MK.out.core.below k hltk
              obtain ⟨w4, hs4, hb4, hr4, hz4⟩ := box46 wr ((D r).edges k) gl
              have HGL : Hid (∀ g, (vl' r).ownBlock = some g → g < wr.heap.size) := fun g hg => (MK.out.rl.lt hg).2
              have HGF : Hid (∀ g, (vf' r).ownBlock = some g → g < wr.heap.size) := fun g hg => (MK.out.rf.lt hg).2
              have hTB : T1 ≤ wr.heap.size := MK.out.core.size
              have M4 : Hid (Mid B C T1 b0 b1 b2 b3 b4 b5 i r D vl' vf' va (found D i (D r).edges k) (foundF D i (D r).edges k) w w4) := MK.out.later hb4
              obtain ⟨q1, q2, -⟩ := edge_cells gl hr4
              have q0 := load34 gl q1
              rw [Nat.zero_add] at q2
              have c1 : w4.cell? ⟨b5, 1, none⟩ = some (.map (some b1)) := by simp [World.cell?, M4.out.core.g, grV, mpV]
              have hlk := run_look M4.out.core.idx gl
              have HF : Hid (found D i (D r).edges (k + 1) = found D i (D r).edges k ++ (match lookL (idxL D i) ((D r).edges k).addr with | none => [] | some j => [j])) := rfl
              have HFF : Hid (foundF D i (D r).edges (k + 1) = foundF D i (D r).edges k ++ (match lookL (idxL D i) ((D r).edges k).addr with | none => [] | some j => if ((D r).edges k).label = 2 then [] else [j])) := rfl
              rw [hea]
              clear MK hb4 hr4 q1 hea
              cases hcase : lookL (idxL D i) ((D r).edges k).addr with
              | none =>
                rw [hcase] at hlk HF HFF
                have M5 : Hid (Mid B C T1 b0 b1 b2 b3 b4 b5 i r D vl' vf' va (found D i (D r).edges (k + 1)) (foundF D i (D r).edges (k + 1)) w w4) := by
                  show Mid _ _ _ _ _ _ _ _ _ _ _ _ _ _ _ _ _ _ _
                  rw [HF.out, HFF.out]; simpa using M4.out
                clear M4 HF HFF hcase
                go_wp2_with fail
                go_roundw
                case rel => exact ⟨k + 1, vl', vf', by omega, by go_num, M5, NK⟩
                case measure => simp [intOf]; omega
              | some j =>
                rw [hcase] at hlk HF HFF
                have hlen := (found_len D i (D r).edges k).1
                obtain ⟨v1, w5, hap, hgr, hown, hat, g, cp, hv1⟩ := app41 M4.out.rl M4.out.core.size (by omega) j
                have hbel := grown_below M4.out.core.size (fun g hg => (M4.out.rl.lt hg).1) hgr
                have M5 : Hid _ := M4.out.appL hgr hown hat
                have hb5T : b5 < T1 := Nat.lt_of_lt_of_le M4.out.core.lt.2.2.2.2.2 M4.out.core.ct
                have hb2T : b2 < T1 := Nat.lt_of_lt_of_le M4.out.core.lt.2.2.1 M4.out.core.ct
                have hT4 := M4.out.core.size
                have a1 : w4.cell? ⟨b5, 2, none⟩ = some (.slice (some ⟨b2, 0, none⟩) i i) := by simp [World.cell?, M4.out.core.g, grV, slV]
                have a2 : (w4.alloc (.cells #[.int .i64 j] 3)).cell? ⟨b5, 2, none⟩ = some (.slice (some ⟨b2, 0, none⟩) i i) := (World.cell?_of_block (a := ⟨b5, 2, none⟩) (Below.heap_alloc w4 _ b5 (by omega))).trans a1
                have a3 : w5.cell? ⟨b5, 2, none⟩ = some (.slice (some ⟨b2, 0, none⟩) i i) := (World.cell?_of_block (a := ⟨b5, 2, none⟩) (hbel.block b5 hb5T)).trans a1
                obtain ⟨d1, d1'⟩ := M4.out.core.lrow.cell r hlt
                have d2 : (w4.alloc (.cells #[.int .i64 j] 3)).cell? ⟨b2, r, none⟩ = some (vl' r) := (World.cell?_of_block (a := ⟨b2, r, none⟩) (Below.heap_alloc w4 _ b2 (by omega))).trans d1
                have d3 : w5.cell? ⟨b2, r, none⟩ = some (vl' r) := (World.cell?_of_block (a := ⟨b2, r, none⟩) (hbel.block b2 hb2T)).trans d1
                have d4 : w5.frozen? ⟨b2, r, none⟩ = false := (World.frozen?_of_block (a := ⟨b2, r, none⟩) (hbel.block b2 hb2T)).trans d1'
                have q6 : (w5.setCell ⟨b2, r, none⟩ v1).cell? ⟨wr.heap.size, 20, none⟩ = some (.int .u8 ((D r).edges k).label) := by
                  rw [World.cell?_of_block (a := ⟨wr.heap.size, 20, none⟩) (Below.heap_setCell _ _ _ _ (show wr.heap.size ≠ b2 by omega)),
                    World.cell?_of_block (a := ⟨wr.heap.size, 20, none⟩) (hgr.block wr.heap.size (by simp; omega) (fun e => Nat.lt_irrefl _ (HGL.out _ e.symm))),
                    World.cell?_of_block (a := ⟨wr.heap.size, 20, none⟩) (Below.heap_alloc w4 _ wr.heap.size (by omega))]
                  exact q2
                have cR := routes_zz ((D r).edges k).label (w5.setCell ⟨b2, r, none⟩ v1)
                rw [hv1] at hap M5 q6 cR
                clear hgr hown hat hbel M4 hcase hz4
                go_wp2_with fail
                refine' @via _ _ ?leafF ?leafX
                case leafF =>
                  intro hX
                  go_region
                  all_goals exact hX
                clear a1 a2 a3 d1 d1' d2 d3 d4 hap hs4 ld q0 q2 c1 hlk
                generalize w5.setCell ⟨b2, r, none⟩ (.slice (some ⟨g, 0, none⟩) ((found D i (D r).edges k).length + 1) cp) = w6 at M5 q6 cR ⊢
                by_cases hlb : ((D r).edges k).label = 2
                · rw [hlb] at cR q6
                  have M6 : Hid (Mid B C T1 b0 b1 b2 b3 b4 b5 i r D (upV vl' r (.slice (some ⟨g, 0, none⟩) ((found D i (D r).edges k).length + 1) cp)) vf' va (found D i (D r).edges (k + 1)) (foundF D i (D r).edges (k + 1)) w w6) := by
                    have h := M5.out
                    show Mid _ _ _ _ _ _ _ _ _ _ _ _ _ _ _ _ _ _ _
                    rw [HF.out, HFF.out]
                    simpa [hlb] using h
                  clear M5 HF HFF
                  go_wp2_with fail
                  refine cR.mono ?_
                  rintro e w7 ⟨rfl, rfl⟩
                  go_wp2_with fail
                  go_roundw
                  case rel => exact ⟨k + 1, _, vf', by omega, by go_num, M6, fun q hq => ⟨by simp [upV, show q ≠ r by omega, (NK.out q hq).1], (NK.out q hq).2⟩⟩
                  case measure => simp [intOf]; omega
                · have hlb' : (((D r).edges k).label == 2) = false := by simpa using hlb
                  rw [hlb'] at cR
                  have hlenF := (found_len D i (D r).edges k).2
                  obtain ⟨v2, w8, hap, hgr, hown, hat, g', cp', hv2⟩ := app41 M5.out.rf M5.out.core.size (by omega) j
                  have hbel := grown_below M5.out.core.size (fun g hg => (M5.out.rf.lt hg).1) hgr
                  have M6 : Hid (Mid B C T1 b0 b1 b2 b3 b4 b5 i r D (upV vl' r (.slice (some ⟨g, 0, none⟩) ((found D i (D r).edges k).length + 1) cp)) (upV vf' r v2) va (found D i (D r).edges (k + 1)) (foundF D i (D r).edges (k + 1)) w (w8.setCell ⟨b3, r, none⟩ v2)) := by
                    have h := M5.out.appF hgr hown hat
                    show Mid _ _ _ _ _ _ _ _ _ _ _ _ _ _ _ _ _ _ _
                    rw [HF.out, HFF.out]
                    simpa [hlb] using h
                  have hb3T : b3 < T1 := Nat.lt_of_lt_of_le M5.out.core.lt.2.2.2.1 M5.out.core.ct
                  have hT6 := M5.out.core.size
                  have a1 : w6.cell? ⟨b5, 3, none⟩ = some (.slice (some ⟨b3, 0, none⟩) i i) := by simp [World.cell?, M5.out.core.g, grV, slV]
                  have a2 : (w6.alloc (.cells #[.int .i64 j] 3)).cell? ⟨b5, 3, none⟩ = some (.slice (some ⟨b3, 0, none⟩) i i) := (World.cell?_of_block (a := ⟨b5, 3, none⟩) (Below.heap_alloc w6 _ b5 (by omega))).trans a1
                  have a3 : w8.cell? ⟨b5, 3, none⟩ = some (.slice (some ⟨b3, 0, none⟩) i i) := (World.cell?_of_block (a := ⟨b5, 3, none⟩) (hbel.block b5 hb5T)).trans a1
                  obtain ⟨d1, d1'⟩ := M5.out.core.frow.cell r hlt
                  have d2 : (w6.alloc (.cells #[.int .i64 j] 3)).cell? ⟨b3, r, none⟩ = some (vf' r) := (World.cell?_of_block (a := ⟨b3, r, none⟩) (Below.heap_alloc w6 _ b3 (by omega))).trans d1
                  have d3 : w8.cell? ⟨b3, r, none⟩ = some (vf' r) := (World.cell?_of_block (a := ⟨b3, r, none⟩) (hbel.block b3 hb3T)).trans d1
                  have d4 : w8.frozen? ⟨b3, r, none⟩ = false := (World.frozen?_of_block (a := ⟨b3, r, none⟩) (hbel.block b3 hb3T)).trans d1'
                  rw [hv2] at hap M6
                  clear hgr hown hat hbel M5 HF HFF hlb'
                  go_wp2_with fail
                  refine cR.mono ?_
                  rintro e w7 ⟨rfl, rfl⟩
                  clear cR
                  go_wp2_with fail
                  refine' @via _ _ ?leafG ?leafY
                  case leafG =>
                    intro hX
                    go_region
                    all_goals exact hX
                  clear a1 a2 a3 d1 d1' d2 d3 d4 hap q6
                  go_wp2_with fail
                  go_roundw
                  case rel => exact ⟨k + 1, _, _, by omega, by go_num, M6, fun q hq => ⟨by simp [upV, show q ≠ r by omega, (NK.out q hq).1], by simp [upV, show q ≠ r by omega, (NK.out q hq).2]⟩⟩
                  case measure => simp [intOf]; omega
            · have hke : k = me := by omega
              subst hke
              clear hltk hk EX
              have hlen := (found_len D i (D r).edges k)
              have cS := sort_row MK.out.rl.own (by omega)
              have a1 : wr.cell? ⟨b5, 2, none⟩ = some (.slice (some ⟨b2, 0, none⟩) i i) := by simp [World.cell?, MK.out.core.g, grV, slV]
              have d1 := (MK.out.core.lrow.cell r hlt).1
              go_wp2_with fail
              refine cS.mono ?_
              rintro e w5 ⟨rfl, ho5, hg5⟩
              have M5 : Hid (Mid B C T1 b0 b1 b2 b3 b4 b5 i r D vl' vf' va (srt (found D i (D r).edges k)) (foundF D i (D r).edges k) w w5) := MK.out.inL hg5 (by rw [srt_length]; exact ho5) (fun h => by
                have := srt_length (found D i (D r).edges k)
                rw [h] at this
                exact List.eq_nil_of_length_eq_zero this.symm)
              clear cS a1 d1 ho5 hg5 MK
              have cC := compact_row (w := w5.drew) M5.out.rl.own (by rw [srt_length]; omega)
              have a1 : w5.cell? ⟨b5, 2, none⟩ = some (.slice (some ⟨b2, 0, none⟩) i i) := by simp [World.cell?, M5.out.core.g, grV, slV]
              obtain ⟨d1, d1'⟩ := M5.out.core.lrow.cell r hlt
              have hb5T : b5 < T1 := Nat.lt_of_lt_of_le M5.out.core.lt.2.2.2.2.2 M5.out.core.ct
              have hb2T : b2 < T1 := Nat.lt_of_lt_of_le M5.out.core.lt.2.2.1 M5.out.core.ct
              have KB : Hid (∀ w6, w5.drew.grownBy w6 (vl' r).ownBlock → Below T1 w5 w6) := fun w6 hg => ((Below.refl _ _).drew).grown hg M5.out.core.size fun g hg => (M5.out.rl.lt hg).1
              have MP : Hid (∀ w6 a' cap', w5.drew.grownBy w6 (vl' r).ownBlock → w6.ownsRow T1 3 1 (.slice a' (Lib.compact (srt (found D i (D r).edges k))).length cap') (Lib.compact (srt (found D i (D r).edges k))).length (ints (Lib.compact (srt (found D i (D r).edges k)))) →
                  (Value.slice a' (Lib.compact (srt (found D i (D r).edges k))).length cap').ownBlock = (vl' r).ownBlock → (vl' r = .slice none 0 0 → Value.slice a' (Lib.compact (srt (found D i (D r).edges k))).length cap' = .slice none 0 0) →
                  Mid B C T1 b0 b1 b2 b3 b4 b5 i r D (upV vl' r (.slice a' (Lib.compact (srt (found D i (D r).edges k))).length cap')) vf' va (Lib.compact (srt (found D i (D r).edges k))) (foundF D i (D r).edges k) w (w6.setCell ⟨b2, r, none⟩ (.slice a' (Lib.compact (srt (found D i (D r).edges k))).length cap'))) := fun w6 a' cap' h1 h2 h3 h4 =>
                (M5.out.later (Below.refl _ _).drew).putL h1 h2 (fun h => h4 (M5.out.rl.nil (compact_nil h))) h3
              generalize (Lib.compact (srt (found D i (D r).edges k))).length = cl at cC MP
              clear M5
              go_wp2_with fail
              refine' @via3 (Option Addr) Nat World (fun a' cap' w6 => Hid (Mid B C T1 b0 b1 b2 b3 b4 b5 i r D (upV vl' r (.slice a' cl cap')) vf' va (Lib.compact (srt (found D i (D r).edges k))) (foundF D i (D r).edges k) w (w6.setCell ⟨b2, r, none⟩ (.slice a' cl cap')))) _ _ ?leafH ?leafZ
              case leafH =>
                intro hX
                go_region_with (go_at_call 47; refine cC.mono ?_; rintro e w6 ⟨a', cap', rfl, ho6, hat6, hnil6, hg6⟩; have hbel6 := KB.out w6 hg6; have a3 := (World.cell?_of_block (a := ⟨b5, 2, none⟩) (hbel6.block b5 hb5T)).trans a1; have d3 := (World.cell?_of_block (a := ⟨b2, r, none⟩) (hbel6.block b2 hb2T)).trans d1; have d4 := (World.frozen?_of_block (a := ⟨b2, r, none⟩) (hbel6.block b2 hb2T)).trans d1'; have M6 : Hid _ := MP.out w6 a' cap' hg6 ho6 hat6 hnil6; clear ho6 hat6 hnil6 hg6 hbel6)
                all_goals exact hX _ _ _ M6
              intro a' cap' w6 M6
              clear cC a1 d1 d1' KB MP
              obtain ⟨vl2, hvl2⟩ : ∃ vl2, vl2 = upV vl' r (.slice a' cl cap') := ⟨_, rfl⟩
              have N2 : Hid (∀ q, r < q → vl2 q = .slice none 0 0 ∧ vf' q = .slice none 0 0) := fun q hq => by rw [hvl2]; exact ⟨by simp [upV, show q ≠ r by omega, (NK.out q hq).1], (NK.out q hq).2⟩
              rw [← hvl2] at M6
              clear NK hvl2
              generalize w6.setCell ⟨b2, r, none⟩ (.slice a' cl cap') = w7 at M6 ⊢
              have cS := sort_row M6.out.rf.own (by omega)
              have a1 : w7.cell? ⟨b5, 3, none⟩ = some (.slice (some ⟨b3, 0, none⟩) i i) := by simp [World.cell?, M6.out.core.g, grV, slV]
              have d1 := (M6.out.core.frow.cell r hlt).1
              go_wp2_with fail
              refine cS.mono ?_
              rintro e w8 ⟨rfl, ho5, hg5⟩
              have M8 : Hid (Mid B C T1 b0 b1 b2 b3 b4 b5 i r D vl2 vf' va (Lib.compact (srt (found D i (D r).edges k))) (srt (foundF D i (D r).edges k)) w w8) := M6.out.inF hg5 (by rw [srt_length]; exact ho5) (fun h => by
                have := srt_length (foundF D i (D r).edges k)
                rw [h] at this
                exact List.eq_nil_of_length_eq_zero this.symm)
              clear cS a1 d1 ho5 hg5 M6
              have cC := compact_row (w := w8.drew) M8.out.rf.own (by rw [srt_length]; omega)
              have a1 : w8.cell? ⟨b5, 3, none⟩ = some (.slice (some ⟨b3, 0, none⟩) i i) := by simp [World.cell?, M8.out.core.g, grV, slV]
              obtain ⟨d1, d1'⟩ := M8.out.core.frow.cell r hlt
              have hb3T : b3 < T1 := Nat.lt_of_lt_of_le M8.out.core.lt.2.2.2.1 M8.out.core.ct
              have KB : Hid (∀ w6, w8.drew.grownBy w6 (vf' r).ownBlock → Below T1 w8 w6) := fun w6 hg => ((Below.refl _ _).drew).grown hg M8.out.core.size fun g hg => (M8.out.rf.lt hg).1
              have MP : Hid (∀ w6 a' cap', w8.drew.grownBy w6 (vf' r).ownBlock → w6.ownsRow T1 3 1 (.slice a' (Lib.compact (srt (foundF D i (D r).edges k))).length cap') (Lib.compact (srt (foundF D i (D r).edges k))).length (ints (Lib.compact (srt (foundF D i (D r).edges k)))) →
                  (Value.slice a' (Lib.compact (srt (foundF D i (D r).edges k))).length cap').ownBlock = (vf' r).ownBlock → (vf' r = .slice none 0 0 → Value.slice a' (Lib.compact (srt (foundF D i (D r).edges k))).length cap' = .slice none 0 0) →
                  Mid B C T1 b0 b1 b2 b3 b4 b5 i r D vl2 (upV vf' r (.slice a' (Lib.compact (srt (foundF D i (D r).edges k))).length cap')) va (Lib.compact (srt (found D i (D r).edges k))) (Lib.compact (srt (foundF D i (D r).edges k))) w (w6.setCell ⟨b3, r, none⟩ (.slice a' (Lib.compact (srt (foundF D i (D r).edges k))).length cap'))) := fun w6 a' cap' h1 h2 h3 h4 =>
                (M8.out.later (Below.refl _ _).drew).putF h1 h2 (fun h => h4 (M8.out.rf.nil (compact_nil h))) h3
              have HCF : Hid ((Lib.compact (srt (foundF D i (D r).edges k))).length ≤ k) := by
                show _ ≤ _
                have := Lib.compact_length_le (srt (foundF D i (D r).edges k))
                rw [srt_length] at this; omega
              obtain ⟨cf, hcf⟩ : ∃ cf, cf = (Lib.compact (srt (foundF D i (D r).edges k))).length := ⟨_, rfl⟩
              have HCE : Hid (cf = (Lib.compact (srt (foundF D i (D r).edges k))).length) := hcf
              rw [← hcf] at cC MP HCF
              clear hcf M8
              go_wp2_with fail
              refine' @via3 (Option Addr) Nat World (fun a' cap' w6 => Hid (Mid B C T1 b0 b1 b2 b3 b4 b5 i r D vl2 (upV vf' r (.slice a' cf cap')) va (Lib.compact (srt (found D i (D r).edges k))) (Lib.compact (srt (foundF D i (D r).edges k))) w (w6.setCell ⟨b3, r, none⟩ (.slice a' cf cap')))) _ _ ?leafI ?leafW
              case leafI =>
                intro hX
                go_region_with (go_at_call 47; refine cC.mono ?_; rintro e w6 ⟨a', cap', rfl, ho6, hat6, hnil6, hg6⟩; have hbel6 := KB.out w6 hg6; have a3 := (World.cell?_of_block (a := ⟨b5, 3, none⟩) (hbel6.block b5 hb5T)).trans a1; have d3 := (World.cell?_of_block (a := ⟨b3, r, none⟩) (hbel6.block b3 hb3T)).trans d1; have d4 := (World.frozen?_of_block (a := ⟨b3, r, none⟩) (hbel6.block b3 hb3T)).trans d1'; have M6 : Hid _ := MP.out w6 a' cap' hg6 ho6 hat6 hnil6; clear ho6 hat6 hnil6 hg6 hbel6)
                all_goals exact hX _ _ _ M6
              intro a2 cap2 w9 M9
              clear cC a1 d1 d1' KB MP
              obtain ⟨vf2, hvf2⟩ : ∃ vf2, vf2 = upV vf' r (.slice a2 cf cap2) := ⟨_, rfl⟩
              have N3 : Hid (∀ q, r < q → vl2 q = .slice none 0 0 ∧ vf2 q = .slice none 0 0) := fun q hq => by rw [hvf2]; exact ⟨(N2.out q hq).1, by simp [upV, show q ≠ r by omega, (N2.out q hq).2]⟩
              have HVF : Hid (vf2 r = .slice a2 cf cap2) := by rw [hvf2]; exact upV_at _ _ _
              rw [← hvf2] at M9
              clear N2 hvf2
              generalize w9.setCell ⟨b3, r, none⟩ (.slice a2 cf cap2) = w10 at M9 ⊢
              have HLL : Hid ((finL D i r).length ≤ k) := by
                show _ ≤ _
                have := Lib.compact_length_le (srt (found D i (D r).edges k))
                rw [srt_length] at this
                unfold finL; rw [← HME.out]; omega
              have EL : Lib.compact (srt (found D i (D r).edges k)) = finL D i r := by unfold finL; rw [← HME.out]
              have EF : Lib.compact (srt (foundF D i (D r).edges k)) = finF D i r := by unfold finF; rw [← HME.out]
              rw [EL, EF] at M9
              rw [EF] at HCE
              clear EL EF hlen
              have MA : Hid (MidA B C T1 b0 b1 b2 b3 b4 b5 i r D vl2 vf2 va (finL D i r) (finF D i r) ((finA D i r).take 0) w w10) := M9.out.midA HVA.out
              have a1 : w10.cell? ⟨b5, 3, none⟩ = some (.slice (some ⟨b3, 0, none⟩) i i) := by simp [World.cell?, M9.out.core.g, grV, slV]
              have d1 : w10.cell? ⟨b3, r, none⟩ = some (.slice a2 cf cap2) := by rw [(M9.out.core.frow.cell r hlt).1, HVF.out]
              clear M9
              go_wp2_with fail
              clear a1 d1
              go_loopw [139] (fun vp wk => ∃ (p : Nat) (va' : Nat → Value), p ≤ cf ∧ vp = .int .i64 p ∧ Hid (MidA B C T1 b0 b1 b2 b3 b4 b5 i r D vl2 vf2 va' (finL D i r) (finF D i r) ((finA D i r).take p) w wk) ∧ Hid (∀ q, r < q → va' q = .slice none 0 0)) (fun vp _ => cf - (intOf vp).toNat)
              case atStart => exact ⟨0, va, Nat.zero_le _, rfl, MA, fun q hq => (TD2.out q hq).2.2⟩
              case round =>
                obtain ⟨p, va', hp, rfl, MK, NA⟩ := hrel
                clear MA
                by_cases hltp : p < cf
                · have hpz : p < (finF D i r).length := by rw [← HCE.out]; exact hltp
                  obtain ⟨g, hg, hcp⟩ := MK.out.mid.rf.read HVF.out p hpz
                  obtain ⟨hj0, hj1⟩ := finF_range D i r _ (List.getElem_mem hpz)
                  obtain ⟨jn, hjn⟩ : ∃ jn : Nat, (finF D i r)[p] = (jn : Int) := ⟨((finF D i r)[p]).toNat, by omega⟩
                  rw [hjn] at hcp hj1
                  have hji : jn < i := by omega
                  have HT : Hid ((finA D i r).take (p + 1) = (finA D i r).take p ++ [(D jn).addr]) := by
                    show _ = _
                    have hp' : p < (finA D i r).length := by simpa [finA] using hpz
                    rw [List.take_succ_eq_append_getElem hp']
                    congr 2
                    simp only [finA, List.getElem_map, hjn]
                    rfl
                  have gl := HL.out jn hji
                  have hxl : ((finA D i r).take p).length ≤ 1048576 := by
                    have := HCF.out
                    rw [List.length_take]; omega
                  obtain ⟨v2, w2, hap, hgr, hown, g', cp', hv2⟩ := app25 MK.out.ra MK.out.mid.core.size hxl (D jn).addr gl
                  have hlt2 : ((finA D i r).take p).length = p := by rw [List.length_take]; simp only [finA, List.length_map]; omega
                  have hbel := grown_below MK.out.mid.core.size (fun g hg => (MK.out.ra.lt hg).1) hgr
                  have M6 : Hid (MidA B C T1 b0 b1 b2 b3 b4 b5 i r D vl2 vf2 (upV va' r v2) (finL D i r) (finF D i r) ((finA D i r).take (p + 1)) w (w2.setCell ⟨b4, r, none⟩ v2)) := by
                    have h := MK.out.app gl hgr hown
                    show MidA _ _ _ _ _ _ _ _ _ _ _ _ _ _ _ _ _ _ _ _
                    rw [HT.out]; exact h
                  have ldA := load34 (w := wr.drew) gl (MK.out.mid.core.addrs.done jn hji)
                  have bsA : (vbs 25 1 #[(0, addrV (D jn).addr)]).run Try.prog wr.drew = .ok (.slice (some ⟨wr.heap.size, 0, none⟩) 1 1) (wr.alloc (.cells ((D jn).addr.map cell).toArray 34)).drew := build25 (D jn).addr gl wr.drew
                  have hb5T : b5 < T1 := Nat.lt_of_lt_of_le MK.out.mid.core.lt.2.2.2.2.2 MK.out.mid.core.ct
                  have hb4T : b4 < T1 := Nat.lt_of_lt_of_le MK.out.mid.core.lt.2.2.2.2.1 MK.out.mid.core.ct
                  have hT6 := MK.out.mid.core.size
                  have e0 : wr.cell? ⟨b5, 0, none⟩ = some (.slice (some ⟨b0, 0, none⟩) i i) := by simp [World.cell?, MK.out.mid.core.g, grV, slV]
                  have a1 : wr.cell? ⟨b5, 4, none⟩ = some (.slice (some ⟨b4, 0, none⟩) i i) := by simp [World.cell?, MK.out.mid.core.g, grV, slV]
                  have a2 : (wr.alloc (.cells ((D jn).addr.map cell).toArray 34)).cell? ⟨b5, 4, none⟩ = some (.slice (some ⟨b4, 0, none⟩) i i) := (World.cell?_of_block (a := ⟨b5, 4, none⟩) (Below.heap_alloc wr _ b5 (by omega))).trans a1
                  have a3 : w2.cell? ⟨b5, 4, none⟩ = some (.slice (some ⟨b4, 0, none⟩) i i) := (World.cell?_of_block (a := ⟨b5, 4, none⟩) (hbel.block b5 hb5T)).trans a1
                  obtain ⟨d1, d1'⟩ := MK.out.mid.core.arow.cell r hlt
                  have d2 : (wr.alloc (.cells ((D jn).addr.map cell).toArray 34)).cell? ⟨b4, r, none⟩ = some (va' r) := (World.cell?_of_block (a := ⟨b4, r, none⟩) (Below.heap_alloc wr _ b4 (by omega))).trans d1
                  have d3 : w2.cell? ⟨b4, r, none⟩ = some (va' r) := (World.cell?_of_block (a := ⟨b4, r, none⟩) (hbel.block b4 hb4T)).trans d1
                  have d4 : w2.frozen? ⟨b4, r, none⟩ = false := (World.frozen?_of_block (a := ⟨b4, r, none⟩) (hbel.block b4 hb4T)).trans d1'
                  rw [hv2, hlt2] at hap M6
                  rw [hg]
                  clear hgr hown hbel MK HT hjn hj0 hj1 hpz HVF
                  go_wp2_with fail
                  refine' @via _ _ ?leafP ?leafQ
                  case leafP =>
                    intro hX
                    go_region
                    all_goals exact hX
                  clear a1 a2 a3 d1 d1' d2 d3 d4 hap ldA bsA e0 hcp
                  go_wp2_with fail
                  go_roundw
                  case rel => exact ⟨p + 1, _, by omega, by go_num, M6, fun q hq => by simp [upV, show q ≠ r by omega, NA.out q hq]⟩
                  case measure => simp [intOf]; omega
                · have hpe : p = cf := by omega
                  subst hpe
                  have C9 : Hid (Core B C wr.heap.size b0 b1 b2 b3 b4 b5 i (r + 1) D vl2 vf2 va' w wr) := by
                    have h := MK.out
                    have hle := HLL.out
                    have hle2 := HCF.out
                    rw [List.take_of_length_le (by simp only [finA, List.length_map]; rw [← HCE.out]; exact Nat.le_refl _)] at h
                    exact h.fin (by unfold maxLen; omega) (by rw [← HCE.out]; unfold maxLen; omega)
                  clear MK
                  go_wp2_with fail
                  go_roundw
                  case rel => exact ⟨r + 1, _, vl2, vf2, va', by omega, by go_num, C9, fun q hq => ⟨(N3.out q hq).1, (N3.out q hq).2, NA.out q hq⟩⟩
                  case measure => simp [intOf]; omega
        · have hre : r = i := by omega
          obtain ⟨l1, w11, s1, l2, hG, hbe⟩ := (hre ▸ CK).out.out
          have HG : Hid (Gr b0 b1 b2 b3 b4 i D vl vf va w11) := hG
          have HBE : Hid (Below B w w11) := hbe
          clear hG hbe CK TD
          go_wp2_with fail
          refine bodyPost_ret (results_vld rfl rfl l2) rfl ?_
          exact ⟨b0, b1, b2, b3, b4, vl, vf, va, rfl, HG.out, by have h := HBE.out; rw [HB.out] at h; exact h⟩
end Go.Proofs.Qxb6601491a
