/-
  zzSetMatches, walked.
-/
import Derived.Test.Qxb6601491aNgC
import Derived.Deep.RegionWith
import Derived.Lib.LazyBuf
namespace Go.Proofs.Qxb6601491a
open Go.RowKit
open Go.Extern.Stop (cell)

attribute [local go_sem ↓] ld33 ld68 st68
attribute [local go_sem] guard33

/-- What zzSetMatches asks of a list. -/
structure SetOK (D : Nat → NodeD) (n i : Nat) (r : Bool) (zs : List Int) : Prop where
  range : ∀ k (hk : k < zs.length), 0 ≤ zs[k] ∧ zs[k] < n
  up : ∀ k (hk : k + 1 < zs.length), zs[k] < zs[k + 1]
  last : ∀ k (hk : k < zs.length), lastIn D (D zs[k].toNat).addr n = zs[k]
  has : ∀ k (hk : k < zs.length), hasTo (D i).edges (D zs[k].toNat).addr r (D i).ne = true
  all : ∀ k, k < (D i).ne → (r = true → ((D i).edges k).label ≠ 2) → 0 ≤ lastIn D ((D i).edges k).addr n → inB zs (lastIn D ((D i).edges k).addr n) = true

theorem IntsAt.below {w w' : World} {v : Value} {zs : List Int} (h : IntsAt w v zs) (hb : Below w.heap.size w w') : IntsAt w' v zs := by
  rcases h with h | ⟨h1, h2, blk, cap, hv, hc⟩
  · exact .inl h
  · exact .inr ⟨h1, h2, blk, cap, hv, fun k hk => (hb.cell (p := ⟨blk, k, none⟩) (World.block_lt_of_cell? w _ (hc k hk))).trans (hc k hk)⟩

theorem NodesAt.get {w : World} {blk off n : Nat} {D : Nat → NodeD} {vs : Nat → Value} (h : NodesAt w (some ⟨blk, off, none⟩) n D vs) (i : Nat) (hi : i < n) :
    (D i).addr.length = 20 ∧ w.rangeAt blk (off + i * 22) (nodeCells (D i) (vs i)) ∧ EdgesAt w (vs i) (D i).ne (D i).edges := by
  obtain ⟨_, _, e, h⟩ := h.at (by omega)
  cases e
  exact h i hi

theorem lastIn_lt (D : Nat → NodeD) (x : List UInt8) : ∀ n, lastIn D x n < n ∧ -1 ≤ lastIn D x n
  | 0 => by simp [lastIn]
  | n + 1 => by
    have := lastIn_lt D x n
    unfold lastIn
    split <;> omega

set_option maxHeartbeats 2000000 in
set_option maxRecDepth 100000 in
theorem match_zz (v : Value) (zs : List Int) (a : Option Addr) (n cap i : Nat) (D : Nat → NodeD) (vs : Nat → Value) (r : Bool) (w : World) (hn : n ≤ 4096) (hi : i < n) (hV : IntsAt w v zs) (hA : NodesAt w a n D vs) (hok : SetOK D n i r zs) :
    Calls Try.prog 15 #[v, .slice a n cap, .int .i64 i, .bool r] w fun e w' => e = .returned (.bool true) ∧ Below w.heap.size w w' := by
  obtain ⟨blk, off, rfl, hc⟩ := hA.at (by omega)
  have HC : Hid (NodesAt w (some ⟨blk, off, none⟩) n D vs) := hA
  have HV : Hid (IntsAt w v zs) := hV
  have HOK : Hid (SetOK D n i r zs) := hok
  obtain ⟨m, hm⟩ : ∃ m, m = zs.length := ⟨_, rfl⟩
  have HM : Hid (m = zs.length) := hm
  obtain ⟨B0, hB0⟩ : ∃ B0, B0 = w.heap.size := ⟨_, rfl⟩
  have HB0 : Hid (B0 = w.heap.size) := hB0
  rw [← hB0]
  obtain ⟨va, vcap, hvv, hva, hml⟩ : ∃ va vcap, v = .slice va m vcap ∧ (va.isNone = decide (m = 0)) ∧ m ≤ maxLen := by
    rcases hV with ⟨h1, h2⟩ | ⟨h1, h2, b, c, h3, -⟩
    · subst h2; exact ⟨none, 0, by rw [hm]; exact h1, by simp [hm], by simp [hm, maxLen]⟩
    · refine ⟨_, c, by rw [hm]; exact h3, ?_, by omega⟩
      have : zs.length ≠ 0 := fun e => h1 (List.eq_nil_of_length_eq_zero e)
      simp [hm, this]
  have hnil := fun w => Lib.run_eql_slice_nil (P := Try.prog) w 41 3 va m vcap 0 0 Try.underlying41
  rw [hva] at hnil
  unfold maxLen at hml
  clear hV hA hok hm hB0 hc hva
  have hzz : ((m : Int) == 0) = decide (m = 0) := by
    by_cases h : m = 0
    · subst h; rfl
    · rw [decide_eq_false h, beq_eq_false_iff_ne]; omega
  rw [hvv] at HV ⊢
  clear hvv
  generalize decide (m = 0) = z at hnil hzz
  go_enter Try.func15, Try.ntmps15
  go_wp2_with fail
  clear hnil hzz
  go_loopw [10] (fun vk wr => ∃ (k : Nat), k ≤ m ∧ vk = .int .i64 k ∧ Hid (Below B0 w wr)) (fun vk _ => m - (intOf vk).toNat)
  case atStart => exact ⟨0, Nat.zero_le _, rfl, Below.refl _ _⟩
  case round =>
    obtain ⟨k, hk, rfl, HB⟩ := hrel
    by_cases hlt : k < m
    · have hkl : k < zs.length := by rw [← HM.out]; exact hlt
      have hVr := HV.out.below (HB0.out ▸ HB.out)
      have hNr := HC.out.below (HB0.out ▸ HB.out)
      have HNr : Hid (NodesAt wr (some ⟨blk, off, none⟩) n D vs) := hNr
      rcases hVr with ⟨-, h2⟩ | ⟨-, -, vb, vc, h3, h4⟩
      · rw [h2] at hkl; simp at hkl
      · obtain ⟨rfl, -, rfl⟩ : va = some ⟨vb, 0, none⟩ ∧ m = zs.length ∧ vcap = vc := by simpa using h3
        have dk := h4 k hkl
        obtain ⟨hz0, hz1⟩ := HOK.out.range k hkl
        have hlast := HOK.out.last k hkl
        have hhas := HOK.out.has k hkl
        have hup : ∀ k' (h : k' + 1 = k), ∃ z', wr.cell? ⟨vb, k', none⟩ = some (.int .i64 z') ∧ z' < zs[k] := fun k' h => by
          subst h
          exact ⟨_, h4 k' (by omega), HOK.out.up k' hkl⟩
        generalize zs[k] = z at dk hz0 hz1 hlast hhas hup
        obtain ⟨j, rfl⟩ : ∃ j : Nat, z = (j : Int) := ⟨z.toNat, by omega⟩
        rw [Int.toNat_natCast] at hlast hhas
        have hjn : j < n := by omega
        obtain ⟨hl, hr, -⟩ := hNr.get j hjn
        obtain ⟨hra, -, -⟩ := node_cells hl hr
        have ld1 := load33 hl hra
        have cL := last_zz (some ⟨blk, off, none⟩) n cap D vs (D j).addr hl wr hn hNr
        rw [hlast] at cL
        have HF : Hid (∀ w2, Below wr.heap.size wr w2 → w2.cell? ⟨blk, off + i * 22 + 21, none⟩ = some (vs i) ∧ (vld 33 ⟨blk, off + j * 22, none⟩).run Try.prog w2 = .ok (addrV (D j).addr) w2 ∧ EdgesAt w2 (vs i) (D i).ne (D i).edges) := fun w2 hb2 => by
          have h := HNr.out.below hb2
          obtain ⟨hl', hr', hE⟩ := h.get i hi
          obtain ⟨-, -, h3⟩ := node_cells hl' hr'
          obtain ⟨hl', hr', -⟩ := h.get j hjn
          exact ⟨h3, load33 hl' (node_cells hl' hr').1, hE⟩
        have HH : Hid (hasTo (D i).edges (D j).addr r (D i).ne = true) := hhas
        have HL : Hid ((D j).addr.length = 20) := hl
        have HX : Hid (∀ w3, Below wr.heap.size wr w3 → Below B0 w w3) := fun w3 hb => HB.out.trans (hb.mono (by have := HB.out.size; rw [HB0.out]; exact this))
        clear h4 hr hra hlast hhas hl hNr h3 HB
        rcases Nat.eq_zero_or_pos k with hk0 | hk0
        · subst hk0
          clear hup
          go_wp2_with fail
          refine cL.mono ?_
          rintro e w2 ⟨rfl, hb2⟩
          clear cL ld1 dk
          obtain ⟨f1, f2, f3⟩ := HF.out w2.drew hb2.drew
          have cH := has_zz (vs i) (D i).ne (D i).edges (D j).addr HL.out r w2.drew f3
          rw [HH.out] at cH
          have HB2 : Hid (Below wr.heap.size wr w2.drew) := hb2.drew
          clear f3 hb2 HF HH
          go_wp2_with fail
          go_region_with (go_at_call 38; refine cH.mono ?_; rintro e w3 ⟨rfl, hb3⟩)
          all_goals
            have H3 : Hid (Below B0 w w3) := HX.out _ (HB2.out.trans (hb3.mono HB2.out.size))
            clear cH hb3 HB2 HX f1 f2
            go_wp2_with fail
            go_roundw
            case rel => exact ⟨0 + 1, by omega, by go_num, H3⟩
            case measure => simp [intOf]; omega
        · obtain ⟨k', rfl⟩ : ∃ k', k = k' + 1 := ⟨k - 1, by omega⟩
          obtain ⟨z', dz, hzlt⟩ := hup k' rfl
          clear hup hk0
          go_wp2_with fail
          refine cL.mono ?_
          rintro e w2 ⟨rfl, hb2⟩
          clear cL ld1 dk dz
          obtain ⟨f1, f2, f3⟩ := HF.out w2.drew hb2.drew
          have cH := has_zz (vs i) (D i).ne (D i).edges (D j).addr HL.out r w2.drew f3
          rw [HH.out] at cH
          have HB2 : Hid (Below wr.heap.size wr w2.drew) := hb2.drew
          clear f3 hb2 HF HH
          go_wp2_with fail
          go_region_with (go_at_call 38; refine cH.mono ?_; rintro e w3 ⟨rfl, hb3⟩)
          all_goals
            have H3 : Hid (Below B0 w w3) := HX.out _ (HB2.out.trans (hb3.mono HB2.out.size))
            clear cH hb3 HB2 HX f1 f2
            go_wp2_with fail
            go_roundw
            case rel => exact ⟨k' + 1 + 1, by omega, by go_num, H3⟩
            case measure => simp [intOf]; omega
    · have hke : k = m := by omega
      subst hke
      clear hlt hk
      obtain ⟨-, -, ea, ecap, hv, -, hem, -⟩ := HC.out.get i hi
      unfold maxLen at hem
      obtain ⟨me, hme⟩ : ∃ me, me = (D i).ne := ⟨_, rfl⟩
      have HME : Hid (me = (D i).ne) := hme
      rw [← hme] at hv hem
      clear hme
      have HVI : Hid (vs i = .slice ea me ecap) := hv
      clear hv
      go_wp2_with fail
      go_loopw [12] (fun vk wr => ∃ (q : Nat), q ≤ me ∧ vk = .int .i64 q ∧ Hid (Below B0 w wr)) (fun vk _ => me - (intOf vk).toNat)
      case atStart => exact ⟨0, Nat.zero_le _, rfl, HB⟩
      case round =>
        obtain ⟨q, hq, rfl, HQ⟩ := hrel
        clear HB
        have hNr := HC.out.below (HB0.out ▸ HQ.out)
        obtain ⟨hl, hr, hE⟩ := hNr.get i hi
        have f1 := (node_cells hl hr).2.2
        rw [HVI.out] at f1 hE
        by_cases hltq : q < me
        · obtain ⟨ea', ecap', e1, -, -, hE2⟩ := hE
          rcases hE2 with h0 | ⟨eb, eo, e2, hE2⟩
          · have := HME.out; omega
          · obtain ⟨rfl, -, rfl⟩ : ea = ea' ∧ me = (D i).ne ∧ ecap = ecap' := by simpa using e1
            subst e2
            obtain ⟨gl, gr⟩ := hE2 q (by have := HME.out; omega)
            have f2 : (vld 68 ⟨eb, eo + q * 22, none⟩).run Try.prog wr = .ok (aggV (edgeCells ((D i).edges q))) wr := ldV_of Try.underlying68 rfl (by rw [Try.size68, edge_len gl]) gr
            obtain ⟨w3, hst, hb3, hr3, -⟩ := box68 wr ((D i).edges q) gl
            obtain ⟨g1, g2, -⟩ := edge_cells gl hr3
            have g0 := load33 gl g1
            rw [Nat.zero_add] at g2
            have hN3 := hNr.below hb3
            have cL := last_zz (some ⟨blk, off, none⟩) n cap D vs ((D i).edges q).addr gl w3 hn hN3
            have HV3 : Hid (∀ w4, Below w3.heap.size w3 w4 → IntsAt w4 (.slice va k vcap) zs) := fun w4 hb4 => (HV.out.below (HB0.out ▸ HQ.out)).below hb3 |>.below hb4
            have HALL : Hid _ := HOK.out.all q (by have := HME.out; omega)
            have HB3 : Hid (Below B0 w w3) := HQ.out.trans (hb3.mono (by have := HQ.out.size; rw [HB0.out]; exact this))
            have hsz : B0 ≤ w3.heap.size := by have := HB3.out.size; rw [HB0.out]; exact this
            obtain ⟨hj0, hj1⟩ := lastIn_lt D ((D i).edges q).addr n
            clear hNr hl hr gr hE2 e1 hb3 hr3 g1 hN3 HQ
            cases r
            · go_wp2_with fail
              refine cL.mono ?_
              rintro e w4 ⟨rfl, hb4⟩
              have HB4 : Hid (Below B0 w w4) := HB3.out.trans (hb4.mono hsz)
              have cI := in_zz (.slice va k vcap) zs (lastIn D ((D i).edges q).addr n) w4 (HV3.out w4 hb4)
              clear cL hb4 HV3 HB3 hst g0 g2
              by_cases hp : 0 ≤ lastIn D ((D i).edges q).addr n
              · rw [HALL.out (fun h => by cases h) hp] at cI
                clear HALL
                generalize lastIn D ((D i).edges q).addr n = jj at cI hp hj0 hj1 ⊢
                go_wp2_with fail
                refine cI.mono ?_
                rintro e w5 ⟨rfl, rfl⟩
                clear cI
                go_wp2_with fail
                go_roundw
                case rel => exact ⟨q + 1, by omega, by go_num, HB4⟩
                case measure => simp [intOf]; omega
              · clear HALL cI
                generalize lastIn D ((D i).edges q).addr n = jj at hp hj0 hj1 ⊢
                go_wp2_with fail
                go_roundw
                case rel => exact ⟨q + 1, by omega, by go_num, HB4⟩
                case measure => simp [intOf]; omega
            · by_cases hlb : ((D i).edges q).label = 2
              · rw [hlb] at g2
                clear cL HALL HV3 hj0 hj1
                go_wp2_with fail
                go_roundw
                case rel => exact ⟨q + 1, by omega, by go_num, HB3⟩
                case measure => simp [intOf]; omega
              · go_wp2_with fail
                refine cL.mono ?_
                rintro e w4 ⟨rfl, hb4⟩
                have HB4 : Hid (Below B0 w w4) := HB3.out.trans (hb4.mono hsz)
                have cI := in_zz (.slice va k vcap) zs (lastIn D ((D i).edges q).addr n) w4 (HV3.out w4 hb4)
                clear cL hb4 HV3 HB3 hst g0 g2
                by_cases hp : 0 ≤ lastIn D ((D i).edges q).addr n
                · rw [HALL.out (fun _ => hlb) hp] at cI
                  clear HALL
                  generalize lastIn D ((D i).edges q).addr n = jj at cI hp hj0 hj1 ⊢
                  go_wp2_with fail
                  refine cI.mono ?_
                  rintro e w5 ⟨rfl, rfl⟩
                  clear cI
                  go_wp2_with fail
                  go_roundw
                  case rel => exact ⟨q + 1, by omega, by go_num, HB4⟩
                  case measure => simp [intOf]; omega
                · clear HALL cI
                  generalize lastIn D ((D i).edges q).addr n = jj at hp hj0 hj1 ⊢
                  go_wp2_with fail
                  go_roundw
                  case rel => exact ⟨q + 1, by omega, by go_num, HB4⟩
                  case measure => simp [intOf]; omega
        · go_wp2_with fail
          go_ret
          exact ⟨rfl, HQ.out⟩
end Go.Proofs.Qxb6601491a
