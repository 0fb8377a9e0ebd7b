/-
  FnNewGraphMatchesEdgeSetModel, walked.
-/
import Derived.Test.Qxb6601491aNgV
import Derived.Test.Qxb6601491aNgT
import Derived.Lib.LazyBuf
namespace Go.Proofs.Qxb6601491a
open Go.RowKit
open Go.Extern.Stop (cell)

attribute [local go_sem ↓] ld33 ld34
attribute [local go_sem] guard34

theorem same34 {xs : List UInt8} (hx : xs.length = 20) (w : World) : (binOp .neq 34 (addrV xs) (addrV xs)).run Try.prog w = .ok (.bool false) w := by
  unfold addrV
  rw [run_neq_struct, run_equalIn_bytes w 9998 34 5 20 Try.underlying34 Try.underlying5 Try.size5 xs xs hx hx]
  simp

theorem len26 {w : World} {b : Nat} {es : Array MapEntry} {clock : Nat} (h : w.heap[b]? = some (.map es clock)) : (Builtin.len_ #[26] 3 #[.map (some b)]).run Try.prog w = .ok (.int .i64 es.size) w := by
  simp [Builtin.len_, run_underlying Try.underlying26, MapKept.run_getObj_map h, goInt]

/-- A row of indices, as a slice. -/
theorem IntsAt.slice {w : World} {v : Value} {zs : List Int} (h : IntsAt w v zs) : ∃ a c, v = .slice a zs.length c ∧ zs.length ≤ maxLen := by
  rcases h with ⟨h1, h2⟩ | ⟨h1, h2, b, c, h3, -⟩
  · subst h2; exact ⟨none, 0, h1, by simp [maxLen]⟩
  · exact ⟨_, c, h3, h2⟩

theorem AdrsAt.slice {w : World} {v : Value} {xs : List (List UInt8)} (h : AdrsAt w v xs) : ∃ a c, v = .slice a xs.length c ∧ a.isNone = decide (xs.length = 0) := by
  rcases h with ⟨h1, h2⟩ | ⟨h1, h2, b, c, h3, -⟩
  · subst h2; exact ⟨none, 0, h1, by simp⟩
  · refine ⟨_, c, h3, ?_⟩
    have : xs.length ≠ 0 := fun e => h1 (List.eq_nil_of_length_eq_zero e)
    simp [this]

/-- An index and an address of a node's forwards, read. -/
theorem IntsAt.read {w : World} {a : Option Addr} {n c : Nat} {zs : List Int} (h : IntsAt w (.slice a n c) zs) (k : Nat) (hk : k < zs.length) : ∃ b, a = some ⟨b, 0, none⟩ ∧ w.cell? ⟨b, k, none⟩ = some (.int .i64 zs[k]) := by
  rcases h with ⟨h1, h2⟩ | ⟨h1, h2, b, c', h3, h4⟩
  · rw [h2] at hk; simp at hk
  · cases h3; exact ⟨b, rfl, h4 k hk⟩

theorem AdrsAt.read {w : World} {a : Option Addr} {n c : Nat} {xs : List (List UInt8)} (h : AdrsAt w (.slice a n c) xs) (k : Nat) (hk : k < xs.length) : ∃ b, a = some ⟨b, 0, none⟩ ∧ xs[k].length = 20 ∧ w.rangeAt b (k * 20) (xs[k].map cell) := by
  rcases h with ⟨h1, h2⟩ | ⟨h1, h2, b, c', h3, h4⟩
  · rw [h2] at hk; simp at hk
  · cases h3; exact ⟨b, rfl, h4 k hk⟩

set_option maxHeartbeats 2000000 in
set_option maxRecDepth 100000 in
theorem main_zz (a : Option Addr) (n cap : Nat) (D : Nat → NodeD) (vs : Nat → Value) (w : World) (hS : IsSnap w a n cap D vs) :
    Calls Try.prog 3 #[.slice a n cap] w fun e w' => e = .returned (.bool true) ∧ Below w.heap.size w w' := by
  obtain ⟨hA, hm, ha⟩ := hS
  have HA : Hid (NodesAt w a n D vs) := hA
  have HAC : Hid (a = none → cap = 0) := ha
  have HMX : Hid (n ≤ maxLen) := hm
  have c9 := bytes_ng a n cap D vs w hm hA
  unfold maxLen at hm
  clear hA ha
  go_enter Try.func3, Try.ntmps3
  go_wp2_with fail
  refine c9.mono ?_
  rintro e w1 ⟨⟨r1, rfl⟩, rfl⟩
  clear c9
  cases r1
  · go_wp2_with fail
    go_ret
    exact ⟨rfl, Below.refl _ _⟩
  · have c10 := big_zz a n cap D vs w1 HMX.out HA.out
    go_wp2_with fail
    refine c10.mono ?_
    rintro e w2 ⟨⟨r2, rfl, hsm⟩, q, rfl⟩
    clear c10
    cases r2
    · obtain ⟨hn, hne⟩ := hsm rfl
      have HNE : Hid (∀ i, i < n → (D i).ne ≤ 43690) := hne
      have HA2 : Hid (NodesAt (w1.drewN q) a n D vs) := HA.out
      obtain ⟨w2, hw2⟩ : ∃ w2, w2 = w1.drewN q := ⟨_, rfl⟩
      have HB2 : Hid (Below w1.heap.size w1 w2) := by rw [hw2]; exact ⟨rfl, rfl, rfl, Nat.le_refl _, fun _ _ => rfl⟩
      rw [← hw2] at HA2 ⊢
      clear hsm hne hw2 HA
      have c11 := clone_zz a n cap D vs w2 hn HNE.out HA2.out HAC.out
      go_wp2_with fail
      refine c11.mono ?_
      rintro e w3 ⟨a1, vs1, rfl, hN3, hb3⟩
      clear c11
      have HN3 : Hid (NodesAt w3 a1 n D vs1) := hN3
      have HB3 : Hid (Below w1.heap.size w1 w3) := HB2.out.trans (hb3.mono HB2.out.size)
      clear hN3 hb3 HB2 HA2
      have c13 := to_zz a1 n n D vs1 w3 hn HNE.out HN3.out (fun e => by rcases HN3.out with h | ⟨_, _, h, _⟩; exact h; rw [e] at h; cases h)
      go_wp2_with fail
      refine c13.mono ?_
      rintro e w4 ⟨a2, vs2, rfl, hN4, hb4⟩
      clear c13
      have HN4 : Hid (NodesAt w4 a1 n D vs1) := HN3.out.below hb4
      have HB4 : Hid (Below w1.heap.size w1 w4) := HB3.out.trans (hb4.mono HB3.out.size)
      have c12 := zznew_all a2 n n D vs2 w4 hn HNE.out hN4
      clear hN4 hb4 HB3 HN3
      go_wp2_with fail
      refine c12.mono ?_
      rintro e w6 ⟨b0, b1, b2, b3, b4, vl, vf, va, rfl, hG, hb6⟩
      clear c12
      have HG : Hid (Gr b0 b1 b2 b3 b4 n D vl vf va w6) := hG
      have HN : Hid (NodesAt w6 a1 n D vs1) := HN4.out.below hb6
      have HB : Hid (Below w1.heap.size w1 w6) := HB4.out.trans (hb6.mono HB4.out.size)
      clear hG hb6 HN4 HB4
      unfold slV mpV
      have q25 := fun w => Lib.run_eql_slice_nil (P := Try.prog) w 25 34 (some ⟨b0, 0, none⟩) n n 0 0 Try.underlying25
      have q26 := fun w => run_eql_map_nil (P := Try.prog) w 26 34 3 (some b1) Try.underlying26
      have q27 := fun w => Lib.run_eql_slice_nil (P := Try.prog) w 27 41 (some ⟨b2, 0, none⟩) n n 0 0 Try.underlying27
      have q27' := fun w => Lib.run_eql_slice_nil (P := Try.prog) w 27 41 (some ⟨b3, 0, none⟩) n n 0 0 Try.underlying27
      have q28 := fun w => Lib.run_eql_slice_nil (P := Try.prog) w 28 25 (some ⟨b4, 0, none⟩) n n 0 0 Try.underlying28
      simp only [Option.isNone_some] at q25 q26 q27 q27' q28
      go_wp2_with fail
      clear q25 q26 q27 q27' q28
      go_loopw [9, 10] (fun vd vi wr => ∃ (i c : Nat), i ≤ n ∧ c ≤ i ∧ vi = .int .i64 i ∧ vd = .int .i64 c ∧ Hid (c = cn (fun j => lastIn D (D j).addr n == (j : Int)) i) ∧ Hid (Below w6.heap.size w6 wr)) (fun _ vi _ => n - (intOf vi).toNat)
      case atStart => exact ⟨0, 0, Nat.zero_le _, Nat.le_refl _, rfl, rfl, rfl, Below.refl _ _⟩
      case round =>
        obtain ⟨i, c, hin, hci, rfl, rfl, HC, HBR⟩ := hrel
        by_cases hlt : i < n
        · obtain ⟨blk, off, ha, -⟩ := HN.out.at (by omega)
          have hNr := HN.out.below HBR.out
          rw [ha] at hNr
          obtain ⟨hl, hr, -⟩ := hNr.get i hlt
          have l33 : ∀ q, (vld 33 ⟨blk, off + i * 22, none⟩).run Try.prog (wr.drewN q) = .ok (addrV (D i).addr) (wr.drewN q) := fun q => load33 (w := wr.drewN q) hl (node_cells hl hr).1
          have l34 : ∀ q, (vld 34 ⟨b0, i * 20, none⟩).run Try.prog (wr.drewN q) = .ok (addrV (D i).addr) (wr.drewN q) := fun q => load34 (w := wr.drewN q) hl ((HG.out.later HBR.out).addrs i hlt)
          have ne := same34 hl
          rw [ha]
          clear hNr hr
          go_wp2_with fail
          go_quiet (fail)
          have HB7 : Hid (Below w6.heap.size w6 (wr.drewN nq)) := HBR.out.trans ⟨rfl, rfl, rfl, Nat.le_refl _, fun _ _ => rfl⟩
          clear l33 l34 ne HBR
          generalize wr.drewN nq = w7 at HB7 ⊢
          have hN7 := HN.out.below HB7.out
          rw [ha] at hN7
          obtain ⟨-, hr7, -⟩ := hN7.get i hlt
          have l7 := load33 hl (node_cells hl hr7).1
          have cL := last_zz (some ⟨blk, off, none⟩) n n D vs1 (D i).addr hl w7 hn hN7
          clear hN7 hr7
          go_wp2_with fail
          refine cL.mono ?_
          rintro e w8 ⟨rfl, hb8⟩
          have HB8 : Hid (Below w6.heap.size w6 w8) := HB7.out.trans (hb8.mono HB7.out.size)
          clear cL l7 hb8 HB7
          have hN8 := HN.out.below HB8.out
          rw [ha] at hN8
          obtain ⟨-, hr8, -⟩ := hN8.get i hlt
          have l8 := load33 hl (node_cells hl hr8).1
          have hlk := run_look (HG.out.later HB8.out).idx hl
          have h0 := lastIn_has D (D i).addr n i hlt rfl
          rw [look_last, if_pos (show 0 ≤ lastIn D (D i).addr n by omega)] at hlk
          have HC1 : Hid (cn (fun j => lastIn D (D j).addr n == (j : Int)) (i + 1) = cn (fun j => lastIn D (D j).addr n == (j : Int)) i + if lastIn D (D i).addr n == (i : Int) then 1 else 0) := rfl
          clear hN8 hr8 h0
          obtain ⟨L, hL⟩ : ∃ L, L = lastIn D (D i).addr n := ⟨_, rfl⟩
          rw [← hL] at hlk HC1 ⊢
          clear hL
          simp only [Option.getD_some, Option.isSome_some] at hlk
          by_cases hLi : L = (i : Int)
          · subst hLi
            go_wp2_with fail
            go_roundw
            case rel => exact ⟨i + 1, c + 1, by omega, by omega, by go_num, by go_num, by show _ = _; rw [HC1.out, HC.out]; simp, HB8⟩
            case measure => simp [intOf]; omega
          · go_wp2_with fail
            go_roundw
            case rel => exact ⟨i + 1, c, by omega, by omega, by go_num, rfl, by show _ = _; rw [HC1.out, HC.out]; simp [hLi], HB8⟩
            case measure => simp [intOf]; omega
        · have hie : i = n := by omega
          obtain ⟨⟨es, clock, hmap, hent⟩, -⟩ := (HG.out.later HBR.out).idx
          have hes : es.size = c := by
            have h := congrArg List.length hent
            simp only [List.length_map, Array.length_toList] at h
            rw [h, HC.out, hie, idx_len]
          have hlen := len26 hmap
          rw [hes] at hlen
          clear hent hmap hes
          go_wp2_with fail
          clear hlen HC hci hin hlt hie
          go_loopw [14] (fun vi wr => ∃ (i : Nat), i ≤ n ∧ vi = .int .i64 i ∧ Hid (Below w6.heap.size w6 wr)) (fun vi _ => n - (intOf vi).toNat)
          case atStart => exact ⟨0, Nat.zero_le _, rfl, HBR⟩
          case round =>
            clear HBR
            obtain ⟨i, hin, rfl, HBR⟩ := hrel
            by_cases hlt : i < n
            · obtain ⟨blk, off, ha, -⟩ := HN.out.at (by omega)
              have hNr := HN.out.below HBR.out
              have hGr := HG.out.later HBR.out
              rw [ha] at hNr
              have cM := match_zz (vl i) (finL D n i) (some ⟨blk, off, none⟩) n n i D vs1 false wr hn hlt (hGr.done i hlt).1 hNr (finL_ok D n i)
              have d2 := hGr.lrow i hlt
              rw [ha]
              clear hNr hGr
              go_wp2_with fail
              refine cM.mono ?_
              rintro e w8 ⟨rfl, hb8⟩
              have HB8 : Hid (Below w6.heap.size w6 w8) := HBR.out.trans (hb8.mono HBR.out.size)
              clear cM d2 hb8 HBR
              have hN8 := HN.out.below HB8.out
              have hG8 := HG.out.later HB8.out
              rw [ha] at hN8
              have cM := match_zz (vf i) (finF D n i) (some ⟨blk, off, none⟩) n n i D vs1 true w8 hn hlt (hG8.done i hlt).2.1 hN8 (finF_ok D n i)
              have d3 := hG8.frow i hlt
              clear hN8 hG8
              go_wp2_with fail
              refine cM.mono ?_
              rintro e w9 ⟨rfl, hb9⟩
              have HB9 : Hid (Below w6.heap.size w6 w9) := HB8.out.trans (hb9.mono HB8.out.size)
              clear cM d3 hb9 HB8
              have hG9 := HG.out.later HB9.out
              obtain ⟨m, hm9⟩ : ∃ m, m = (finF D n i).length := ⟨_, rfl⟩
              have HM9 : Hid (m = (finF D n i).length) := hm9
              obtain ⟨A, cA, hva, hAn⟩ := (hG9.done i hlt).2.2.slice
              obtain ⟨A', cF, hvf, hml⟩ := (hG9.done i hlt).2.1.slice
              have hfa : (finA D n i).length = m := by rw [hm9]; simp [finA]
              rw [hfa] at hva hAn
              rw [← hm9] at hvf hml
              have HVA : Hid (va i = .slice A m cA) := hva
              have HVF : Hid (vf i = .slice A' m cF) := hvf
              have d3 := hG9.frow i hlt
              have d4 := hG9.arow i hlt
              rw [hva] at d4
              rw [hvf] at d3
              have q25 := fun w => Lib.run_eql_slice_nil (P := Try.prog) w 25 34 A m cA 0 0 Try.underlying25
              rw [hAn] at q25
              unfold maxLen at hml
              have hzz : ((m : Int) == 0) = decide (m = 0) := by
                by_cases h : m = 0
                · subst h; rfl
                · rw [decide_eq_false h, beq_eq_false_iff_ne]; omega
              clear hG9 hva hvf hAn hfa hm9
              generalize decide (m = 0) = z at q25 hzz
              go_wp2_with fail
              clear d3 d4 q25 hzz
              go_loopw [16] (fun vk wk => ∃ (k : Nat), k ≤ m ∧ vk = .int .i64 k ∧ Hid (Below w6.heap.size w6 wk)) (fun vk _ => m - (intOf vk).toNat)
              case atStart => exact ⟨0, Nat.zero_le _, rfl, HB9⟩
              case round =>
                clear HB9
                obtain ⟨k, hk, rfl, HBK⟩ := hrel
                by_cases hltk : k < m
                · have hN9 := HN.out.below HBK.out
                  have hG9 := HG.out.later HBK.out
                  rw [ha] at hN9
                  have hkf : k < (finF D n i).length := by rw [← HM9.out]; exact hltk
                  have hka : k < (finA D n i).length := by simpa [finA] using hkf
                  have hD := hG9.done i hlt
                  rw [HVA.out, HVF.out] at hD
                  obtain ⟨fb, hA, -, hra⟩ := hD.2.2.read k hka
                  obtain ⟨gb, hA', hcg⟩ := hD.2.1.read k hkf
                  obtain ⟨hj0, hj1⟩ := finF_range D n i _ (List.getElem_mem hkf)
                  obtain ⟨jn, hjn⟩ : ∃ jn : Nat, (finF D n i)[k] = (jn : Int) := ⟨((finF D n i)[k]).toNat, by omega⟩
                  have hxa : (finA D n i)[k] = (D jn).addr := by simp only [finA, List.getElem_map, hjn]; rfl
                  rw [hxa] at hra
                  rw [hjn] at hcg hj1
                  have hji : jn < n := by omega
                  obtain ⟨hl, hr, -⟩ := hN9.get jn hji
                  have l33 : ∀ q, (vld 33 ⟨blk, off + jn * 22, none⟩).run Try.prog (wr.drewN q) = .ok (addrV (D jn).addr) (wr.drewN q) := fun q => load33 (w := wr.drewN q) hl (node_cells hl hr).1
                  have l34 : ∀ q, (vld 34 ⟨fb, k * 20, none⟩).run Try.prog (wr.drewN q) = .ok (addrV (D jn).addr) (wr.drewN q) := fun q => load34 (w := wr.drewN q) hl hra
                  have ne := same34 hl
                  have d3 := hG9.frow i hlt
                  rw [HVF.out, hA'] at d3
                  rw [hA]
                  clear hN9 hG9 hD hra hr hj0 hj1 hjn hxa hka hkf
                  go_wp2_with fail
                  go_quiet (fail)
                  have HB7 : Hid (Below w6.heap.size w6 (wr.drewN nq)) := HBK.out.trans ⟨rfl, rfl, rfl, Nat.le_refl _, fun _ _ => rfl⟩
                  clear l33 l34 ne HBK d3 hcg
                  go_wp2_with fail
                  go_roundw
                  case rel => exact ⟨k + 1, by omega, by go_num, HB7⟩
                  case measure => simp [intOf]; omega
                · go_wp2_with fail
                  go_roundw
                  case rel => exact ⟨i + 1, by omega, by go_num, HBK⟩
                  case measure => simp [intOf]; omega
            · go_wp2_with fail
              go_ret
              exact ⟨rfl, HB.out.trans (HBR.out.mono HB.out.size)⟩
    · go_wp2_with fail
      go_ret
      exact ⟨rfl, ⟨rfl, rfl, rfl, Nat.le_refl _, fun _ _ => rfl⟩⟩
end Go.Proofs.Qxb6601491a
