/-
  (*staticChildren).add, walked: the ninth child: the turn to the map.
-/
import Derived.Test.Qxb6601888aAdd
namespace Go.Proofs.Qxb6601888a
open Go.RowKit

set_option maxHeartbeats 1000000 in
set_option maxRecDepth 100000 in
theorem add_switch (base S g cap : Nat) (l : Kids) (t : ByteArray) (a : Addr) (w : World) (hn : l.length = 8) (hnd : ∀ i j (hi : i < l.length) (hj : j < l.length), i < j → eqs l[i].1 l[j].1 = false) (hf : findAddr l t = none)
    (hS : w.heap[S]? = some (.cells #[.slice (some ⟨g, 0, none⟩) 8 cap, .map none] 34 (0, 0))) (hSb : base ≤ S) (hown : w.ownsRow base 68 2 (.slice (some ⟨g, 0, none⟩) 8 cap) 8 (fewCells l)) :
    Calls Try.prog 36 #[.pointer (some ⟨S, 0, none⟩), .string t, .pointer (some a)] w fun e w' => e = .returned (.tuple #[]) ∧ St w' base S (l ++ [(t, a)]) ∧ Keep base S w w' := by
  obtain ⟨c0, c1⟩ := cells_two hS
  have hgt := own_type hown (g := g) rfl
  obtain ⟨hgb, cur, hgc⟩ := hgt
  have hglt := lt_of_heap hgc
  have hSlt := lt_of_heap hS
  have hgS : g ≠ S := fun e => by subst e; rw [hS] at hgc; cases hgc
  have hnm := fun w => run_neq_map_nil (P := Try.prog) w 32 9 37 none Try.underlying32
  have hmk := fun n => run_makeMap_hint (P := Try.prog) w Try.underlying32 .i64 n
  -- the world with the new map
  obtain ⟨m, hm⟩ : ∃ m, m = w.heap.size := ⟨_, rfl⟩
  have k0 : Keep base S w (w.alloc (.map #[] 0)) := keep_alloc (Keep.refl _ _ _) (by omega) _
  have s0 : (w.alloc (.map #[] 0)).heap[S]? = some (.cells #[.slice (some ⟨g, 0, none⟩) 8 cap, .map none] 34 (0, 0)) := (heap_alloc_lt hSlt).trans hS
  have g0 : (w.alloc (.map #[] 0)).heap[g]? = w.heap[g]? := heap_alloc_lt hglt
  have m0 : (w.alloc (.map #[] 0)).heap[m]? = some (.map #[] 0) := by rw [hm]; exact heap_alloc_new w _
  have z0 : m < (w.alloc (.map #[] 0)).heap.size := lt_of_heap m0
  rw [← hm] at hmk
  generalize w.alloc (.map #[] 0) = w0 at hmk k0 s0 g0 m0 z0
  obtain ⟨d0, d1⟩ := cells_two s0
  have hf1 : w0.frozen? ⟨S, 1, none⟩ = false := by simp [World.frozen?, s0]
  have hSm : S ≠ m := by omega
  have hgm : g ≠ m := by omega
  have hbm : base ≤ m := by omega
  -- .. and the field turned
  have SW0 : Hid (Sw base S m g cap l 0 w (w0.setCell ⟨S, 1, none⟩ (.map (some m)))) :=
    ⟨keep_setCell k0 hSb _, (Below.heap_setCell _ _ _ _ hgS).trans g0, heap_setCell_same w0 S 1 _ 34 _ s0, ⟨#[], 0, (Below.heap_setCell _ _ _ _ (Ne.symm hSm)).trans m0, rfl⟩⟩
  have hcells := few_cells hn hown
  have HN : Hid (l.length = 8) := hn
  have HND : Hid (∀ i j (hi : i < l.length) (hj : j < l.length), i < j → eqs l[i].1 l[j].1 = false) := hnd
  have HF : Hid (findAddr l t = none) := hf
  have HC : Hid (∀ (k : Nat) (hk : k < l.length), w.cell? ⟨g, k * 2, none⟩ = some (.string l[k].1) ∧ w.cell? ⟨g, k * 2 + 1, none⟩ = some (.pointer (some l[k].2))) := hcells
  have HM : Hid (m = w.heap.size) := hm
  clear hn hnd hf hS hown hgc hcells m0 k0 s0 g0 hm
  go_enter Try.func36, Try.ntmps36
  go_wp2_with fail
  clear d0 d1 hf1 hmk hnm c0 c1 z0
  go_loopw [23] (fun vk wr => ∃ k : Nat, k ≤ 8 ∧ vk = .int .i64 k ∧ Hid (Sw base S m g cap l k w wr)) (fun vk _ => 8 - (intOf vk).toNat)
  case atStart => exact ⟨0, by omega, rfl, SW0⟩
  case round =>
    obtain ⟨k, hk, rfl, SWK⟩ := hrel
    clear SW0
    by_cases hlt : k < 8
    · have hkl : k < l.length := by rw [HN.out]; exact hlt
      obtain ⟨es, clock, hmm, hee⟩ := SWK.out.map
      obtain ⟨x, hx⟩ : ∃ x, x = l[k].1 := ⟨_, rfl⟩
      obtain ⟨b, hb⟩ : ∃ b, b = l[k].2 := ⟨_, rfl⟩
      have r0 : wr.cell? ⟨g, k * 2, none⟩ = some (.string x) := by rw [hx]; exact (World.cell?_of_block (a := ⟨g, k * 2, none⟩) SWK.out.row).trans (HC.out k hkl).1
      have r1 : wr.cell? ⟨g, k * 2 + 1, none⟩ = some (.pointer (some b)) := by rw [hb]; exact (World.cell?_of_block (a := ⟨g, k * 2 + 1, none⟩) SWK.out.row).trans (HC.out k hkl).2
      have hzr : w.heap.size ≤ wr.heap.size := SWK.out.keep.below.size
      have hSr : ∀ o, (wr.alloc o).cell? ⟨S, 1, none⟩ = some (.map (some m)) := fun o =>
        (World.cell?_of_block (a := ⟨S, 1, none⟩) (heap_alloc_lt (show S < wr.heap.size by omega))).trans (cells_two SWK.out.own).2
      have hm2 : (wr.alloc (.cells #[.string x, .pointer (some b)] 68)).drew.heap[m]? = some (.map es clock) := (heap_alloc_lt (lt_of_heap hmm)).trans hmm
      have hup := run_update_kids (P := Try.prog) (wr.alloc (.cells #[.string x, .pointer (some b)] 68)).drew Try.underlying32 Try.underlying9 hm2 hee x (by rw [hx]; exact findAddr_take hkl HND.out) (.pointer (some b))
      have SW1 := sw_step (o := .cells #[.string x, .pointer (some b)] 68) SWK.out hbm (by omega) hgm hSm (by omega) hkl hmm hee
      rw [← hx, ← hb] at SW1
      generalize ChangeMaps.setBlock (wr.alloc (.cells #[.string x, .pointer (some b)] 68)).drew m (.map (es.push { key := .string x, val := .pointer (some b), born := clock }) (clock + 1)) = w2 at hup SW1
      have HSW : Hid (Sw base S m g cap l (k + 1) w w2) := SW1
      clear hx hb hmm hee hm2 SWK SW1 hkl
      go_wp2_with fail
      go_region
      all_goals go_wp2_with fail
      go_roundw
      case rel => exact ⟨k + 1, by omega, by go_num, HSW⟩
      case measure => simp [intOf]; omega
    · have hk8 : k = 8 := by omega
      subst hk8
      obtain ⟨es, clock, hmm, hee⟩ := SWK.out.map
      rw [List.take_of_length_le (by rw [HN.out]; omega)] at hee
      have hS1 := (cells_two SWK.out.own).2
      have hup := run_update_kids (P := Try.prog) wr Try.underlying32 Try.underlying9 hmm hee t HF.out (.pointer (some a))
      have hSx : (ChangeMaps.setBlock wr m (.map (es.push { key := .string t, val := .pointer (some a), born := clock }) (clock + 1))).heap[S]? = some (.cells #[.slice (some ⟨g, 0, none⟩) 8 cap, .map (some m)] 34 (0, 0)) := (heap_setBlock_ne hSm).trans SWK.out.own
      have hKx : Keep base S w (ChangeMaps.setBlock wr m (.map (es.push { key := .string t, val := .pointer (some a), born := clock }) (clock + 1))) := keep_setBlock SWK.out.keep hbm hmm
      have hMx := ChangeMaps.heap_setBlock_same hmm (.map (es.push { key := .string t, val := .pointer (some a), born := clock }) (clock + 1))
      have hEx := entries_push hee t a clock
      generalize es.push { key := .string t, val := .pointer (some a), born := clock } = es2 at hup hSx hKx hMx hEx
      generalize ChangeMaps.setBlock wr m (.map es2 (clock + 1)) = w2 at hup hSx hKx hMx
      have e0 := (cells_two hSx).1
      have hf2 : w2.frozen? ⟨S, 0, none⟩ = false := by simp [World.frozen?, hSx]
      have HSt : Hid (St (w2.setCell ⟨S, 0, none⟩ (.slice none 0 0)) base S (l ++ [(t, a)])) :=
        ⟨.slice none 0 0, .map (some m), heap_setCell_same w2 S 0 _ 34 _ hSx, .inr ⟨by simp [HN.out], rfl, m, es2, clock + 1, rfl, hbm, (Below.heap_setCell _ _ _ _ (Ne.symm hSm)).trans hMx, hEx⟩⟩
      have HKe : Hid (Keep base S w (w2.setCell ⟨S, 0, none⟩ (.slice none 0 0))) := keep_setCell hKx hSb _
      clear hmm hee SWK hSx hKx hMx hEx
      go_wp2_with fail
      go_end0
      exact ⟨rfl, HSt.out, HKe.out⟩

/-- No two children bear one text. -/
def Apart (l : Kids) : Prop := ∀ i j (hi : i < l.length) (hj : j < l.length), i < j → eqs l[i].1 l[j].1 = false

/-- '(*staticChildren).add' of a text that is not held yet. -/
theorem add_any (base S : Nat) (l : Kids) (t : ByteArray) (a : Addr) (w : World) (h : St w base S l) (hSb : base ≤ S) (hnd : Apart l) (hf : findAddr l t = none) :
    Calls Try.prog 36 #[.pointer (some ⟨S, 0, none⟩), .string t, .pointer (some a)] w fun e w' => e = .returned (.tuple #[]) ∧ St w' base S (l ++ [(t, a)]) ∧ Keep base S w w' := by
  obtain ⟨vf, vm, hS, h2⟩ := h
  rcases h2 with ⟨h8, rfl, hrow⟩ | ⟨h8, rfl, m, es, c, rfl, hb, hm, he⟩
  · by_cases h : l.length < 8
    · rcases hrow.2 with ⟨rfl, h0⟩ | ⟨g, cap, cur, rfl, -, hg, -⟩
      · have e := hrow
        rw [h0] at e
        have := add_few base S 0 0 none l t a w h0 (by omega) hS hSb e
        exact this
      · exact add_few base S l.length cap (some ⟨g, 0, none⟩) l t a w rfl h hS hSb hrow
    · have e8 : l.length = 8 := by omega
      rcases hrow.2 with ⟨rfl, h0⟩ | ⟨g, cap, cur, rfl, -, hg, -⟩
      · omega
      · rw [e8] at hS hrow
        exact add_switch base S g cap l t a w e8 hnd hf hS hSb hrow
  · refine (add_map S m c _ es l t a w hS hm he hf).mono ?_
    rintro e w' ⟨rfl, rfl⟩
    have hSm : S ≠ m := fun e => by subst e; rw [hS] at hm; cases hm
    exact ⟨rfl, ⟨_, _, (heap_setBlock_ne hSm).trans hS, .inr ⟨by simp; omega, rfl, m, _, _, rfl, hb, ChangeMaps.heap_setBlock_same hm _, entries_push he t a c⟩⟩, keep_setBlock (Keep.refl _ _ _) hb hm⟩

/-- 'ZZStaticAdd': the same. -/
theorem add_zz (base S : Nat) (l : Kids) (t : ByteArray) (a : Addr) (w : World) (h : St w base S l) (hSb : base ≤ S) (hnd : Apart l) (hf : findAddr l t = none) :
    Calls Try.prog 19 #[.pointer (some ⟨S, 0, none⟩), .string t, .pointer (some a)] w fun e w' => e = .returned (.tuple #[]) ∧ St w' base S (l ++ [(t, a)]) ∧ Keep base S w w' := by
  have hc := add_any base S l t a w h hSb hnd hf
  clear h hnd hf hSb
  go_enter Try.func19, Try.ntmps19
  go_wp2_with fail
  refine hc.mono ?_
  rintro e w' ⟨rfl, h1, h2⟩
  have H1 : Hid _ := h1
  have H2 : Hid _ := h2
  clear h1 h2
  go_wp2_with fail
  go_end0
  exact ⟨rfl, H1.out, H2.out⟩

theorem apart_append {l : Kids} {t : ByteArray} {a : Addr} (h : Apart l) (hf : findAddr l t = none) : Apart (l ++ [(t, a)]) := by
  intro i j hi hj hij
  simp only [List.length_append, List.length_cons, List.length_nil] at hi hj
  by_cases hjl : j < l.length
  · rw [List.getElem_append_left hjl, List.getElem_append_left (by omega)]
    exact h i j (by omega) hjl hij
  · obtain rfl : j = l.length := by omega
    rw [List.getElem_append_left (by omega), List.getElem_append_right (by omega)]
    simp only [Nat.sub_self, List.getElem_cons_zero]
    cases hq : eqs l[i].1 t with
    | false => rfl
    | true =>
      exfalso
      unfold findAddr at hf
      have : l.find? (fun p => eqs p.1 t) = none := by simpa using hf
      rw [List.find?_eq_none] at this
      exact this l[i] (List.getElem_mem _) hq
end Go.Proofs.Qxb6601888a
