/-
  THE GRAPH IN MEMORY WHILE newGraph LAYS IT: the first loop.
-/
import Derived.Test.Qxb6601491aMakI
namespace Go.Proofs.Qxb6601491a
open Go.RowKit
open Go.Extern.Stop (cell)

/-- One block may have turned; all others that were there are as they were. -/
structure Touch (c : Nat) (w w' : World) : Prop where
  os : w'.os = w.os
  tape : w'.tape = w.tape
  output : w'.output = w.output
  size : w.heap.size ≤ w'.heap.size
  block : ∀ k, k < w.heap.size → k ≠ c → w'.heap[k]? = w.heap[k]?

theorem Touch.below {B c : Nat} {a w w' : World} (h : Touch c w w') (hb : Below B a w) (hs : B ≤ w.heap.size) (hc : B ≤ c) : Below B a w' :=
  hb.trans ⟨h.os, h.tape, h.output, h.size, fun k hk => h.block k (by omega) (by omega)⟩

theorem Touch.of_below {c : Nat} {w w' : World} (h : Below w.heap.size w w') : Touch c w w' := ⟨h.os, h.tape, h.output, h.size, fun k hk _ => h.block k hk⟩

theorem Touch.trans {c : Nat} {a b d : World} (h : Touch c a b) (k : Touch c b d) : Touch c a d :=
  ⟨k.os.trans h.os, k.tape.trans h.tape, k.output.trans h.output, Nat.le_trans h.size k.size, fun i hi hc => (k.block i (Nat.lt_of_lt_of_le hi h.size) hc).trans (h.block i hi hc)⟩

theorem Touch.setCells (c o : Nat) (vs : List Value) (w : World) : Touch c w (w.setCells c o vs) :=
  ⟨(Below.setCells (Nat.zero_le c) vs o w (Below.refl 0 w)).os, (Below.setCells (Nat.zero_le c) vs o w (Below.refl 0 w)).tape, (Below.setCells (Nat.zero_le c) vs o w (Below.refl 0 w)).output, by rw [size_setCells]; exact Nat.le_refl _, fun _ _ hk => heap_setCells_ne hk vs o w⟩

theorem Touch.setBlock (c : Nat) (o : Obj) (w : World) : Touch c w (ChangeMaps.setBlock w c o) :=
  ⟨rfl, rfl, rfl, by simp [ChangeMaps.setBlock], fun k _ hk => by unfold ChangeMaps.setBlock; simp [Ne.symm hk]⟩

theorem Touch.rangeAt {c : Nat} {w w' : World} (h : Touch c w w') {b o : Nat} {cs : List Value} (hr : w.rangeAt b o cs) (hb : b ≠ c) : w'.rangeAt b o cs := fun j v hv => by
  have := hr j v hv
  have hlt : b < w.heap.size := World.block_lt_of_cell? w _ this
  exact (World.cell?_of_block (a := ⟨b, o + j, none⟩) (h.block b hlt hb)).trans this

/-- The index behind i nodes. -/
def idxL (D : Nat → NodeD) : Nat → List (List UInt8 × Int)
  | 0 => []
  | i + 1 => putL (D i).addr (i : Nat) (idxL D i)

/-- The row of addresses, i of them laid. -/
structure AddrRow (b0 n i : Nat) (D : Nat → NodeD) (w : World) : Prop where
  row : ∃ cur, w.heap[b0]? = some (.cells cur 34 (0, 0)) ∧ cur.size = n * 20
  done : ∀ j, j < i → w.rangeAt b0 (j * 20) ((D j).addr.map cell)

theorem AddrRow.there {b0 n i : Nat} {D : Nat → NodeD} {w : World} (h : AddrRow b0 n i D w) (j : Nat) (hj : j < n) : w.there b0 (j * 20) 20 := fun k hk => by
  obtain ⟨cur, h1, h2⟩ := h.row
  have : j * 20 + k < cur.size := by rw [h2]; omega
  constructor
  · simp [World.cell?, h1, this]
  · simp [World.frozen?, h1]

theorem AddrRow.put {b0 n i : Nat} {D : Nat → NodeD} {w : World} (h : AddrRow b0 n i D w) (hi : i < n) (hl : ∀ j, j < n → (D j).addr.length = 20) : AddrRow b0 n (i + 1) D (w.setCells b0 (i * 20) ((D i).addr.map cell)) := by
  refine ⟨?_, fun j hj => ?_⟩
  · obtain ⟨cur, h1, h2⟩ := h.row
    obtain ⟨c, h3, h4⟩ := heap_setCells_same ((D i).addr.map cell) (i * 20) w cur h1
    exact ⟨c, h3, by rw [h4, h2]⟩
  · by_cases e : j = i
    · subst e
      exact World.rangeAt_setCells_same _ _ _ _ (by simp only [List.length_map, hl j hi]; exact h.there j hi)
    · refine World.rangeAt_setCells_apart (h.done j (by omega)) _ _ _ (.inr ?_)
      simp only [List.length_map, hl j (by omega), hl i hi]
      omega

theorem AddrRow.touch {b0 n i c : Nat} {D : Nat → NodeD} {w w' : World} (h : AddrRow b0 n i D w) (ht : Touch c w w') (hc : b0 ≠ c) : AddrRow b0 n i D w' := by
  obtain ⟨cur, h1, h2⟩ := h.row
  exact ⟨⟨cur, (ht.block b0 (Array.getElem?_eq_some_iff.1 h1).1 hc).trans h1, h2⟩, fun j hj => ht.rangeAt (h.done j hj) hc⟩

theorem IdxAt.touch {w w' : World} {m c : Nat} {l : List (List UInt8 × Int)} (h : IdxAt w m l) (ht : Touch c w w') (hc : m ≠ c) : IdxAt w' m l := by
  obtain ⟨⟨es, clock, h1, h2⟩, h3⟩ := h
  exact ⟨⟨es, clock, (ht.block m (Array.getElem?_eq_some_iff.1 h1).1 hc).trans h1, h2⟩, h3⟩

/-- WHAT STANDS DURING THE FIRST LOOP. -/
structure G1 (B b0 b1 b2 b3 b4 b5 n i : Nat) (D : Nat → NodeD) (w0 w : World) : Prop where
  below : Below B w0 w
  size : B < w.heap.size
  le : B < b0 ∧ B < b1 ∧ B < b2 ∧ B < b3 ∧ B < b4 ∧ B < b5
  ne : b2 ≠ b3
  res : ∃ c, w.heap[B]? = some (.cells c 70 (0, 0)) ∧ c.size = 5
  g : w.heap[b5]? = some (.cells (grV n b0 b1 b2 b3 b4).toArray 70 (0, 0))
  addrs : AddrRow b0 n i D w
  idx : IdxAt w b1 (idxL D i)
  lists : w.heap[b2]? = some (obL n 41)
  fwds : w.heap[b3]? = some (obL n 41)
  fas : w.heap[b4]? = some (obL n 25)

section
variable {B b0 b1 b2 b3 b4 b5 n i : Nat} {D : Nat → NodeD} {w0 w w' : World}

/-- The blocks of the graph are not each other. -/
theorem G1.apart (h : G1 B b0 b1 b2 b3 b4 b5 n i D w0 w) : b0 ≠ b1 ∧ b0 ≠ b2 ∧ b0 ≠ b3 ∧ b0 ≠ b4 ∧ b0 ≠ b5 ∧ b1 ≠ b2 ∧ b1 ≠ b3 ∧ b1 ≠ b4 ∧ b1 ≠ b5 := by
  obtain ⟨cur, h0, -⟩ := h.addrs.row
  obtain ⟨⟨es, clock, h1, -⟩, -⟩ := h.idx
  have h2 := h.lists
  have h3 := h.fwds
  have h4 := h.fas
  have h5 := h.g
  unfold obL at h2 h3 h4
  refine ⟨?_, ?_, ?_, ?_, ?_, ?_, ?_, ?_, ?_⟩ <;> intro e <;> subst e
  · rw [h0] at h1; cases h1
  · rw [h0] at h2; injection h2 with h2; injection h2 with _ h2 _; cases h2
  · rw [h0] at h3; injection h3 with h3; injection h3 with _ h3 _; cases h3
  · rw [h0] at h4; injection h4 with h4; injection h4 with _ h4 _; cases h4
  · rw [h0] at h5; injection h5 with h5; injection h5 with _ h5 _; cases h5
  · rw [h1] at h2; cases h2
  · rw [h1] at h3; cases h3
  · rw [h1] at h4; cases h4
  · rw [h1] at h5; cases h5

theorem G1.later (h : G1 B b0 b1 b2 b3 b4 b5 n i D w0 w) (hb : Below w.heap.size w w') : G1 B b0 b1 b2 b3 b4 b5 n i D w0 w' := by
  have lt : ∀ {k o}, w.heap[k]? = some o → k < w.heap.size := fun h => (Array.getElem?_eq_some_iff.1 h).1
  have ht : ∀ c, Touch c w w' := fun c => Touch.of_below hb
  obtain ⟨c, h1, h2⟩ := h.res
  obtain ⟨cur, h0, -⟩ := h.addrs.row
  exact ⟨h.below.trans (hb.mono (Nat.le_of_lt h.size)), Nat.lt_of_lt_of_le h.size hb.size, h.le, h.ne, ⟨c, (hb.block _ (lt h1)).trans h1, h2⟩, (hb.block _ (lt h.g)).trans h.g,
    h.addrs.touch (ht (b0 + 1)) (by omega), h.idx.touch (ht (b1 + 1)) (by omega), (hb.block _ (lt h.lists)).trans h.lists, (hb.block _ (lt h.fwds)).trans h.fwds, (hb.block _ (lt h.fas)).trans h.fas⟩

/-- One round: the address, then the index. -/
theorem G1.step {o : Obj} (h : G1 B b0 b1 b2 b3 b4 b5 n i D w0 w) (hi : i < n) (hl : ∀ j, j < n → (D j).addr.length = 20)
    (hx : IdxAt (ChangeMaps.setBlock (w.setCells b0 (i * 20) ((D i).addr.map cell)) b1 o) b1 (idxL D (i + 1))) :
    G1 B b0 b1 b2 b3 b4 b5 n (i + 1) D w0 (ChangeMaps.setBlock (w.setCells b0 (i * 20) ((D i).addr.map cell)) b1 o) := by
  have lt : ∀ {k o}, w.heap[k]? = some o → k < w.heap.size := fun h => (Array.getElem?_eq_some_iff.1 h).1
  obtain ⟨a01, a02, a03, a04, a05, a12, a13, a14, a15⟩ := h.apart
  have t0 := Touch.setCells b0 (i * 20) ((D i).addr.map cell) w
  have t1 := Touch.setBlock b1 o (w.setCells b0 (i * 20) ((D i).addr.map cell))
  have keep : ∀ {k ob}, w.heap[k]? = some ob → k ≠ b0 → k ≠ b1 → (ChangeMaps.setBlock (w.setCells b0 (i * 20) ((D i).addr.map cell)) b1 o).heap[k]? = some ob := fun hk k0 k1 =>
    (t1.block _ (Nat.lt_of_lt_of_le (lt hk) t0.size) k1).trans ((t0.block _ (lt hk) k0).trans hk)
  obtain ⟨c, h1, h2⟩ := h.res
  have hle := h.le
  refine ⟨t1.below (t0.below h.below (Nat.le_of_lt h.size) (by omega)) (by have := t0.size; have := h.size; omega) (by omega), by have := t0.size; have := t1.size; have := h.size; omega, h.le, h.ne, ⟨c, keep h1 (by omega) (by omega), h2⟩, keep h.g (Ne.symm a05) (Ne.symm a15), (h.addrs.put hi hl).touch t1 a01, hx, keep h.lists (Ne.symm a02) (Ne.symm a12), keep h.fwds (Ne.symm a03) (Ne.symm a13), keep h.fas (Ne.symm a04) (Ne.symm a14)⟩
end

/-- The start. -/
theorem G1.start {n b0 b1 b2 b3 b4 b5 : Nat} {D : Nat → NodeD} {w w1 w' : World} (hG : GraphNew n w1.heap.size b0 b1 b2 b3 b4 b5 w1 w') (hw : w1 = { w.alloc obG with drawn := w.drawn + 1 }) : G1 w.heap.size b0 b1 b2 b3 b4 b5 n 0 D w w' := by
  have hs : w1.heap.size = w.heap.size + 1 := by rw [hw]; simp
  have hb : Below w.heap.size w w1 := by
    rw [hw]; exact ⟨rfl, rfl, rfl, by simp, fun k hk => Below.heap_alloc w _ k hk⟩
  have hle := hG.le
  rw [hs] at hle
  refine ⟨hb.trans (hG.below.mono (by omega)), by have := hG.below.size; omega, by omega, hG.ne, ⟨#[.slice none 0 0, .map none, .slice none 0 0, .slice none 0 0, .slice none 0 0], ?_, rfl⟩, hG.h5, ⟨⟨_, hG.h0, by simp [madeCells]⟩, fun j hj => absurd hj (Nat.not_lt_zero _)⟩, ⟨⟨#[], 0, hG.h1, rfl⟩, fun p hp => by cases hp⟩, hG.h2, hG.h3, hG.h4⟩
  rw [hG.below.block _ (by omega), hw]
  exact heap_alloc_new w _
end Go.Proofs.Qxb6601491a
