/-
  (*staticChildren).add, walked.
-/
import Derived.Test.Qxb6601888aGet
namespace Go.Proofs.Qxb6601888a
open Go.RowKit

theorem Try.info68 : (Try.prog.info? 68).map (fun i => (i.zero, i.size, i.bytes)) = some (some (.agg #[.string ⟨#[]⟩, .pointer none]), 2, 24) := by kernel_rfl

/-- What 'add' keeps: all below 'base', and every row of another element type than 68, but for block S. -/
structure Keep (base S : Nat) (w w' : World) : Prop where
  below : Below base w w'
  rows : ∀ k c T fr, w.heap[k]? = some (.cells c T fr) → T ≠ 68 → k ≠ S → w'.heap[k]? = w.heap[k]?

theorem Keep.refl (base S : Nat) (w : World) : Keep base S w w := ⟨Below.refl _ _, fun _ _ _ _ _ _ _ => rfl⟩
theorem Keep.trans {base S : Nat} {a b c : World} (h : Keep base S a b) (k : Keep base S b c) : Keep base S a c :=
  ⟨h.below.trans k.below, fun i x T fr hx hT hS => by
    have e := h.rows i x T fr hx hT hS
    exact (k.rows i x T fr (e.trans hx) hT hS).trans e⟩

set_option maxHeartbeats 400000 in
theorem add_map (S m clock : Nat) (vf : Value) (es : Array MapEntry) (l : Kids) (t : ByteArray) (a : Addr) (w : World) (hS : w.heap[S]? = some (.cells #[vf, .map (some m)] 34 (0, 0))) (hm : w.heap[m]? = some (.map es clock)) (he : Entries es.toList l) (hf : findAddr l t = none) :
    Calls Try.prog 36 #[.pointer (some ⟨S, 0, none⟩), .string t, .pointer (some a)] w fun e w' => e = .returned (.tuple #[]) ∧ w' = ChangeMaps.setBlock w m (.map (es.push { key := .string t, val := .pointer (some a), born := clock }) (clock + 1)) := by
  obtain ⟨c0, c1⟩ := cells_two hS
  have hnm := fun w => run_neq_map_nil (P := Try.prog) w 32 9 37 (some m) Try.underlying32
  have hup := run_update_kids (P := Try.prog) w Try.underlying32 Try.underlying9 hm he t hf (.pointer (some a))
  generalize ChangeMaps.setBlock w m (.map (es.push { key := .string t, val := .pointer (some a), born := clock }) (clock + 1)) = w1 at hup ⊢
  clear hS hm he hf
  go_enter Try.func36, Try.ntmps36
  go_wp2
  go_end0
  exact ⟨rfl, rfl⟩

/-- The block that a row owns is a row of its element type. -/
theorem own_type {w : World} {base e size n g : Nat} {v : Value} {xs : List Value} (h : w.ownsRow base e size v n xs) (hg : v.ownBlock = some g) : base ≤ g ∧ ∃ cur, w.heap[g]? = some (.cells cur e (0, 0)) := by
  rcases h.2 with ⟨rfl, _⟩ | ⟨g', cap, cur, rfl, h1, h2, _⟩
  · cases hg
  · cases hg; exact ⟨h1, cur, h2⟩

theorem heap_alloc_lt {w : World} {k : Nat} {o : Obj} (h : k < w.heap.size) : (w.alloc o).heap[k]? = w.heap[k]? := Below.heap_alloc w o k h

theorem lt_of_heap {w : World} {k : Nat} {o : Obj} (h : w.heap[k]? = some o) : k < w.heap.size := (Array.getElem?_eq_some_iff.1 h).1

/-- What the append and the store of its result into S leave. -/
theorem add_few_end {base S n cap : Nat} {ao : Option Addr} {l : Kids} {t : ByteArray} {a : Addr} {w w1 : World} {v' : Value} {o : Obj} (hn : l.length = n) (h8 : n < 8) (hS : w.heap[S]? = some (.cells #[.slice ao n cap, .map none] 34 (0, 0))) (hSb : base ≤ S)
    (hown : w.ownsRow base 68 2 (.slice ao n cap) n (fewCells l)) (hown' : w1.ownsRow base 68 2 v' (n + 1) (fewCells l ++ [.string t, .pointer (some a)])) (hgrow : (w.alloc o).grownBy w1 (Value.slice ao n cap).ownBlock) :
    w1.heap[S]? = some (.cells #[.slice ao n cap, .map none] 34 (0, 0)) ∧ St (w1.setCell ⟨S, 0, none⟩ v') base S (l ++ [(t, a)]) ∧ Keep base S w (w1.setCell ⟨S, 0, none⟩ v') := by
  have rowne : ∀ (k : Nat) (c : Array Value) (T : TypeId) (fr : Nat × Nat), w.heap[k]? = some (Obj.cells c T fr) → T ≠ 68 → w1.heap[k]? = w.heap[k]? := fun k c T fr hk hT => by
    have hlt := lt_of_heap hk
    rw [hgrow.block k (by simp; omega) (fun e => by
      obtain ⟨_, cur, hc⟩ := own_type hown e.symm
      rw [hk] at hc; cases hc; exact hT rfl), heap_alloc_lt hlt]
  have hS1 := (rowne S _ 34 _ hS (by decide)).trans hS
  have hS2 : (w1.setCell ⟨S, 0, none⟩ v').heap[S]? = some (.cells #[v', .map none] 34 (0, 0)) := heap_setCell_same w1 S 0 _ 34 v' hS1
  have hne : v'.ownBlock ≠ some S := fun e => by
    obtain ⟨_, cur, hc⟩ := own_type hown' e
    rw [hS1] at hc; cases hc
  refine ⟨hS1, ⟨v', .map none, hS2, .inl ⟨by simp; omega, rfl, ?_⟩⟩, ⟨?_, fun k c T fr hk hT hkS => ?_⟩⟩
  · have e1 : (l ++ [(t, a)]).length = n + 1 := by simp [hn]
    have e2 : fewCells (l ++ [(t, a)]) = fewCells l ++ [.string t, .pointer (some a)] := by simp [fewCells]
    rw [e1, e2]
    exact ownsRow_setCell_other hown' hne v'
  · refine Below.setCell ?_ hSb _
    have hbase : base ≤ w.heap.size := by have := lt_of_heap hS; omega
    exact (((Below.refl _ _).alloc hbase _).grown hgrow (by simp; omega) (fun k hk => (own_type hown hk).1))
  · rw [Below.heap_setCell _ _ _ _ hkS]
    exact rowne k c T fr hk hT

set_option maxHeartbeats 400000 in
set_option maxRecDepth 100000 in
theorem add_few (base S n cap : Nat) (ao : Option Addr) (l : Kids) (t : ByteArray) (a : Addr) (w : World) (hn : l.length = n) (h8 : n < 8) (hS : w.heap[S]? = some (.cells #[.slice ao n cap, .map none] 34 (0, 0))) (hSb : base ≤ S)
    (hown : w.ownsRow base 68 2 (.slice ao n cap) n (fewCells l)) :
    Calls Try.prog 36 #[.pointer (some ⟨S, 0, none⟩), .string t, .pointer (some a)] w fun e w' => e = .returned (.tuple #[]) ∧ St w' base S (l ++ [(t, a)]) ∧ Keep base S w w' := by
  obtain ⟨c0, c1⟩ := cells_two hS
  have hnm := fun w => run_neq_map_nil (P := Try.prog) w 32 9 37 none Try.underlying32
  obtain ⟨i0, hi, hz0, hz1, hz2⟩ := info_parts Try.info68
  have HN : Hid (l.length = n) := hn
  have HS : Hid (w.heap[S]? = some (.cells #[.slice ao n cap, .map none] 34 (0, 0))) := hS
  have HO : Hid (w.ownsRow base 68 2 (.slice ao n cap) n (fewCells l)) := hown
  clear hn hS
  go_enter Try.func36, Try.ntmps36
  go_wp2_with (at_builtin; refine wpList_append_own _ rfl _ _ 31 rfl base 68 i0 (.agg #[.string ⟨#[]⟩, .pointer none]) 2 24 Try.underlying31 hi hz0 hz1 hz2 rfl (by decide) _ _ _ rfl (hown.alloc _) ⟨w.heap.size, 0, none⟩ 1 1 [.string t, .pointer (some a)] rfl rfl ?c1 ?c2 ?c3 ?c4 ?c5 ?_)
  case c1 =>
    intro j u hj
    match j, hj with
    | 0, hj => simp at hj; subst hj; simp [Addr.add]
    | 1, hj => simp at hj; subst hj; simp [Addr.add]
  case c2 => intro u hu; simp at hu; rcases hu with rfl | rfl <;> rfl
  case c3 => unfold maxLen; omega
  case c4 => omega
  case c5 => have := lt_of_heap HS.out; simp; omega
  intro v' w1 hown' hgrow _
  obtain ⟨h1, h2, h3⟩ := add_few_end HN.out h8 HS.out hSb HO.out hown' hgrow
  obtain ⟨d0, d1⟩ := cells_two h1
  have hf : w1.frozen? ⟨S, 0, none⟩ = false := by simp [World.frozen?, h1]
  have hex : ∃ g cp, v' = .slice (some ⟨g, 0, none⟩) (n + 1) cp := by
    rcases hown'.2 with ⟨_, h⟩ | ⟨g, cp, cur, h, _⟩
    · omega
    · exact ⟨g, cp, h⟩
  obtain ⟨g, cp, hv⟩ := hex
  rw [hv] at h2 h3
  rw [hv]
  have H2 : Hid _ := h2
  have H3 : Hid _ := h3
  clear hown hown' hgrow h1 h2 h3 hv hi hz0 hz1 hz2 c0 c1 hnm
  go_wp2_with fail
  go_end0
  exact ⟨rfl, H2.out, H3.out⟩

/-- THE TURN TO THE MAP, k children laid: what stands in the world. -/
structure Sw (base S m g cap : Nat) (l : Kids) (k : Nat) (w wr : World) : Prop where
  keep : Keep base S w wr
  row : wr.heap[g]? = w.heap[g]?
  own : wr.heap[S]? = some (.cells #[.slice (some ⟨g, 0, none⟩) 8 cap, .map (some m)] 34 (0, 0))
  map : ∃ es clock, wr.heap[m]? = some (.map es clock) ∧ Entries es.toList (l.take k)

theorem heap_setBlock_ne {w : World} {b k : Nat} {o : Obj} (h : k ≠ b) : (ChangeMaps.setBlock w b o).heap[k]? = w.heap[k]? := by
  unfold ChangeMaps.setBlock
  simp [Ne.symm h]

/-- A store into the map's block: what is kept. -/
theorem keep_setBlock {base S m : Nat} {w wr : World} {es es' : Array MapEntry} {c c' : Nat} (h : Keep base S w wr) (hb : base ≤ m) (hm : wr.heap[m]? = some (.map es c)) : Keep base S w (ChangeMaps.setBlock wr m (.map es' c')) := by
  refine h.trans ⟨⟨rfl, rfl, rfl, by simp [ChangeMaps.setBlock], fun k hk => heap_setBlock_ne (by omega)⟩, fun k x T fr hk hT hS => heap_setBlock_ne fun e => ?_⟩
  subst e; rw [hm] at hk; cases hk

theorem keep_alloc {base S : Nat} {w wr : World} (h : Keep base S w wr) (hb : base ≤ wr.heap.size) (o : Obj) : Keep base S w (wr.alloc o) :=
  h.trans ⟨(Below.refl _ _).alloc hb _, fun _ _ _ _ hk _ _ => heap_alloc_lt (lt_of_heap hk)⟩

theorem keep_drew {base S : Nat} {w wr : World} (h : Keep base S w wr) : Keep base S w wr.drew := ⟨h.below.drew, h.rows⟩

theorem keep_setCell {base S i : Nat} {w wr : World} (h : Keep base S w wr) (hb : base ≤ S) (v : Value) : Keep base S w (wr.setCell ⟨S, i, none⟩ v) :=
  h.trans ⟨(Below.refl _ _).setCell hb _, fun _ _ _ _ _ _ hkS => Below.heap_setCell _ _ _ _ hkS⟩

theorem findAddr_take {l : Kids} {k : Nat} (hk : k < l.length) (hnd : ∀ i j (hi : i < l.length) (hj : j < l.length), i < j → eqs l[i].1 l[j].1 = false) : findAddr (l.take k) l[k].1 = none := by
  refine findAddr_take_none fun j hj => ?_
  rw [List.length_take] at hj
  rw [List.getElem_take]
  exact hnd j k (by omega) hk (by omega)

/-- One child more in the map. -/
theorem sw_step {base S m g cap : Nat} {l : Kids} {k : Nat} {w wr : World} {o : Obj} {es : Array MapEntry} {clock : Nat} (hs : Sw base S m g cap l k w wr) (hb : base ≤ m) (hbr : base ≤ wr.heap.size) (hgm : g ≠ m) (hSm : S ≠ m) (hg : g < wr.heap.size)
    (hk : k < l.length) (hm : wr.heap[m]? = some (.map es clock)) (he : Entries es.toList (l.take k)) :
    Sw base S m g cap l (k + 1) w (ChangeMaps.setBlock (wr.alloc o).drew m (.map (es.push { key := .string l[k].1, val := .pointer (some l[k].2), born := clock }) (clock + 1))) := by
  have hm2 : (wr.alloc o).drew.heap[m]? = some (.map es clock) := (heap_alloc_lt (lt_of_heap hm)).trans hm
  refine ⟨keep_setBlock (keep_drew (keep_alloc hs.keep hbr _)) hb hm2, ?_, ?_, ⟨_, _, ChangeMaps.heap_setBlock_same hm2 _, ?_⟩⟩
  · rw [heap_setBlock_ne hgm]; exact (heap_alloc_lt hg).trans hs.row
  · rw [heap_setBlock_ne hSm]; exact (heap_alloc_lt (lt_of_heap hs.own)).trans hs.own
  · have e : l.take (k + 1) = l.take k ++ [(l[k].1, l[k].2)] := by rw [List.take_succ_eq_append_getElem hk]
    rw [e]; exact entries_push he _ _ _
end Go.Proofs.Qxb6601888a
