/-
  THE GRAPH IN MEMORY WHILE newGraph LAYS IT: the second loop.
-/
import Derived.Test.Qxb6601491aNgM
namespace Go.Proofs.Qxb6601491a
open Go.RowKit
open Go.Extern.Stop (cell)

/-- The indices that a node's edges lead to, in the edges' order. -/
def found (D : Nat → NodeD) (n : Nat) (E : Nat → EdgeD) : Nat → List Int
  | 0 => []
  | k + 1 => found D n E k ++ (match lookL (idxL D n) (E k).addr with | none => [] | some j => [j])

def foundF (D : Nat → NodeD) (n : Nat) (E : Nat → EdgeD) : Nat → List Int
  | 0 => []
  | k + 1 => foundF D n E k ++ (match lookL (idxL D n) (E k).addr with | none => [] | some j => if (E k).label = 2 then [] else [j])

/-- The lists as newGraph leaves them. -/
def finL (D : Nat → NodeD) (n r : Nat) : List Int := Lib.compact (srt (found D n (D r).edges (D r).ne))
def finF (D : Nat → NodeD) (n r : Nat) : List Int := Lib.compact (srt (foundF D n (D r).edges (D r).ne))
def finA (D : Nat → NodeD) (n r : Nat) : List (List UInt8) := (finF D n r).map fun j => (D j.toNat).addr

/-- A list of indices in a block between C and T; nil where it is empty. -/
def IntsIn (w : World) (C T : Nat) (v : Value) (zs : List Int) : Prop :=
  (v = .slice none 0 0 ∧ zs = []) ∨ (zs ≠ [] ∧ zs.length ≤ maxLen ∧ ∃ blk cap, C ≤ blk ∧ blk < T ∧ v = .slice (some ⟨blk, 0, none⟩) zs.length cap ∧ ∀ k (hk : k < zs.length), w.cell? ⟨blk, k, none⟩ = some (.int .i64 zs[k]))

/-- A list of addresses, likewise. -/
def AddrsIn (w : World) (C T : Nat) (v : Value) (xs : List (List UInt8)) : Prop :=
  (v = .slice none 0 0 ∧ xs = []) ∨ (xs ≠ [] ∧ xs.length ≤ maxLen ∧ ∃ blk cap, C ≤ blk ∧ blk < T ∧ v = .slice (some ⟨blk, 0, none⟩) xs.length cap ∧ ∀ k (hk : k < xs.length), xs[k].length = 20 ∧ w.rangeAt blk (k * 20) (xs[k].map cell))

theorem IntsIn.keep {w w' : World} {C T T' : Nat} {v : Value} {zs : List Int} (h : IntsIn w C T v zs) (hT : T ≤ T') (hk : ∀ k, C ≤ k → k < T → w'.heap[k]? = w.heap[k]?) : IntsIn w' C T' v zs := by
  rcases h with h | ⟨h1, h2, blk, cap, h3, h4, h5, h6⟩
  · exact .inl h
  · exact .inr ⟨h1, h2, blk, cap, h3, Nat.lt_of_lt_of_le h4 hT, h5, fun k hk' => (World.cell?_of_block (a := ⟨blk, k, none⟩) (hk blk h3 h4)).trans (h6 k hk')⟩

theorem AddrsIn.keep {w w' : World} {C T T' : Nat} {v : Value} {xs : List (List UInt8)} (h : AddrsIn w C T v xs) (hT : T ≤ T') (hk : ∀ k, C ≤ k → k < T → w'.heap[k]? = w.heap[k]?) : AddrsIn w' C T' v xs := by
  rcases h with h | ⟨h1, h2, blk, cap, h3, h4, h5, h6⟩
  · exact .inl h
  · exact .inr ⟨h1, h2, blk, cap, h3, Nat.lt_of_lt_of_le h4 hT, h5, fun k hk' => ⟨(h6 k hk').1, fun j u hu => (World.cell?_of_block (a := ⟨blk, k * 20 + j, none⟩) (hk blk h3 h4)).trans ((h6 k hk').2 j u hu)⟩⟩

/-- A row of n slices. -/
def SlRow (w : World) (b : Nat) (t : TypeId) (n : Nat) (vs : Nat → Value) : Prop := ∃ cur, w.heap[b]? = some (.cells cur t (0, 0)) ∧ cur.size = n ∧ ∀ r, r < n → cur[r]? = some (vs r)

theorem SlRow.cell {w : World} {b : Nat} {t : TypeId} {n : Nat} {vs : Nat → Value} (h : SlRow w b t n vs) (r : Nat) (hr : r < n) : w.cell? ⟨b, r, none⟩ = some (vs r) ∧ w.frozen? ⟨b, r, none⟩ = false := by
  obtain ⟨cur, h1, -, h3⟩ := h
  exact ⟨by simp [World.cell?, h1, h3 r hr], by simp [World.frozen?, h1]⟩

theorem SlRow.same {w w' : World} {b : Nat} {t : TypeId} {n : Nat} {vs : Nat → Value} (h : SlRow w b t n vs) (e : w'.heap[b]? = w.heap[b]?) : SlRow w' b t n vs := by
  obtain ⟨cur, h1, h2⟩ := h
  exact ⟨cur, e.trans h1, h2⟩

theorem SlRow.set {w : World} {b : Nat} {t : TypeId} {n : Nat} {vs : Nat → Value} (h : SlRow w b t n vs) (i : Nat) (v : Value) : SlRow (w.setCell ⟨b, i, none⟩ v) b t n (fun r => if r = i then v else vs r) := by
  obtain ⟨cur, h1, h2, h3⟩ := h
  refine ⟨_, heap_setCell_same w b i cur t v h1, by simp [h2], fun r hr => ?_⟩
  rw [Array.getElem?_setIfInBounds]
  by_cases e : i = r
  · subst e; simp [h2, hr]
  · simp [e, Ne.symm e, h3 r hr]

/-- WHAT STANDS DURING THE SECOND LOOP: i rows are done; all blocks at T and above are the round's own. -/
structure Core (B C T b0 b1 b2 b3 b4 b5 n i : Nat) (D : Nat → NodeD) (vl vf va : Nat → Value) (w0 w : World) : Prop where
  below : Below B w0 w
  size : T ≤ w.heap.size
  ct : C ≤ T
  le : B < b0 ∧ B < b1 ∧ B < b2 ∧ B < b3 ∧ B < b4 ∧ B < b5
  lt : b0 < C ∧ b1 < C ∧ b2 < C ∧ b3 < C ∧ b4 < C ∧ b5 < C
  ne2 : b2 ≠ b0 ∧ b2 ≠ b1 ∧ b2 ≠ b3 ∧ b2 ≠ b4 ∧ b2 ≠ b5
  ne3 : b3 ≠ b0 ∧ b3 ≠ b1 ∧ b3 ≠ b4 ∧ b3 ≠ b5
  ne4 : b4 ≠ b0 ∧ b4 ≠ b1 ∧ b4 ≠ b5
  res : ∃ c, w.heap[B]? = some (.cells c 70 (0, 0)) ∧ c.size = 5
  g : w.heap[b5]? = some (.cells (grV n b0 b1 b2 b3 b4).toArray 70 (0, 0))
  addrs : AddrRow b0 n n D w
  idx : IdxAt w b1 (idxL D n)
  lrow : SlRow w b2 41 n vl
  frow : SlRow w b3 41 n vf
  arow : SlRow w b4 25 n va
  done : ∀ r, r < i → IntsIn w C T (vl r) (finL D n r) ∧ IntsIn w C T (vf r) (finF D n r) ∧ AddrsIn w C T (va r) (finA D n r)

section
variable {B C T b0 b1 b2 b3 b4 b5 n i : Nat} {D : Nat → NodeD} {vl vf va : Nat → Value} {w0 w w' : World}

/-- A change at T and above alone. -/
theorem Core.keep (h : Core B C T b0 b1 b2 b3 b4 b5 n i D vl vf va w0 w) (hb : Below T w w') : Core B C T b0 b1 b2 b3 b4 b5 n i D vl vf va w0 w' := by
  have hlt := h.lt
  have hle := h.le
  have hct := h.ct
  have at' : ∀ k, k < C → w'.heap[k]? = w.heap[k]? := fun k hk => hb.block k (by omega)
  have ht : ∀ b, b < C → ∃ c, b ≠ c ∧ ∀ k, k < C → k ≠ c → w'.heap[k]? = w.heap[k]? := fun b _ => ⟨b + 1, by omega, fun k hk _ => at' k hk⟩
  obtain ⟨c, r1, r2⟩ := h.res
  obtain ⟨cur, a1, a2⟩ := h.addrs.row
  obtain ⟨⟨es, clock, x1, x2⟩, x3⟩ := h.idx
  refine ⟨h.below.trans (hb.mono (by omega)), Nat.le_trans h.size hb.size, h.ct, h.le, h.lt, h.ne2, h.ne3, h.ne4, ⟨c, (at' B (by omega)).trans r1, r2⟩, (at' b5 (by omega)).trans h.g, ⟨⟨cur, (at' b0 (by omega)).trans a1, a2⟩, fun j hj k u hu => ?_⟩,
    ⟨⟨es, clock, (at' b1 (by omega)).trans x1, x2⟩, x3⟩, h.lrow.same (at' b2 (by omega)), h.frow.same (at' b3 (by omega)), h.arow.same (at' b4 (by omega)), fun r hr => ?_⟩
  · exact (World.cell?_of_block (a := ⟨b0, j * 20 + k, none⟩) (at' b0 (by omega))).trans (h.addrs.done j hj k u hu)
  · obtain ⟨d1, d2, d3⟩ := h.done r hr
    exact ⟨d1.keep (Nat.le_refl _) fun k _ hk => hb.block k hk, d2.keep (Nat.le_refl _) fun k _ hk => hb.block k hk, d3.keep (Nat.le_refl _) fun k _ hk => hb.block k hk⟩

/-- A store into one of the three rows of slices, at the round's own place. -/
theorem Core.set (h : Core B C T b0 b1 b2 b3 b4 b5 n i D vl vf va w0 w) {b : Nat} (hb : b = b2 ∨ b = b3 ∨ b = b4) (v : Value) :
    Core B C T b0 b1 b2 b3 b4 b5 n i D (if b = b2 then fun r => if r = i then v else vl r else vl) (if b = b3 then fun r => if r = i then v else vf r else vf) (if b = b4 then fun r => if r = i then v else va r else va) w0 (w.setCell ⟨b, i, none⟩ v) := by
  have hlt := h.lt
  have hle := h.le
  have hct := h.ct
  obtain ⟨n20, n21, n23, n24, n25⟩ := h.ne2
  obtain ⟨n30, n31, n34, n35⟩ := h.ne3
  obtain ⟨n40, n41, n45⟩ := h.ne4
  have keep : ∀ k, k ≠ b → (w.setCell ⟨b, i, none⟩ v).heap[k]? = w.heap[k]? := fun k hk => Below.heap_setCell _ _ _ _ hk
  have k0 : b0 ≠ b := by
    rcases hb with e | e | e <;> rw [e]
    · exact Ne.symm n20
    · exact Ne.symm n30
    · exact Ne.symm n40
  have k1 : b1 ≠ b := by
    rcases hb with e | e | e <;> rw [e]
    · exact Ne.symm n21
    · exact Ne.symm n31
    · exact Ne.symm n41
  have k5 : b5 ≠ b := by
    rcases hb with e | e | e <;> rw [e]
    · exact Ne.symm n25
    · exact Ne.symm n35
    · exact Ne.symm n45
  have hbC : b < C := by
    rcases hb with e | e | e <;> rw [e]
    · exact hlt.2.2.1
    · exact hlt.2.2.2.1
    · exact hlt.2.2.2.2.1
  have hbB : B < b := by
    rcases hb with e | e | e <;> rw [e]
    · exact hle.2.2.1
    · exact hle.2.2.2.1
    · exact hle.2.2.2.2.1
  have kB : B ≠ b := Nat.ne_of_lt hbB
  have kC : ∀ k, C ≤ k → k ≠ b := fun k hk e => by rw [e] at hk; exact absurd hbC (Nat.not_lt.2 hk)
  obtain ⟨c, r1, r2⟩ := h.res
  obtain ⟨cur, a1, a2⟩ := h.addrs.row
  obtain ⟨⟨es, clock, x1, x2⟩, x3⟩ := h.idx
  refine ⟨h.below.setCell (Nat.le_of_lt hbB) _, by simpa [World.setCell] using h.size, h.ct, h.le, h.lt, h.ne2, h.ne3, h.ne4, ⟨c, (keep B kB).trans r1, r2⟩, (keep b5 k5).trans h.g, ⟨⟨cur, (keep b0 k0).trans a1, a2⟩, fun j hj k u hu => ?_⟩,
    ⟨⟨es, clock, (keep b1 k1).trans x1, x2⟩, x3⟩, ?_, ?_, ?_, fun r hr => ?_⟩
  · exact (World.cell?_of_block (a := ⟨b0, j * 20 + k, none⟩) (keep b0 k0)).trans (h.addrs.done j hj k u hu)
  · split
    · rename_i e; subst e; exact h.lrow.set i v
    · rename_i e; exact h.lrow.same (keep b2 (Ne.symm e))
  · split
    · rename_i e; subst e; exact h.frow.set i v
    · rename_i e; exact h.frow.same (keep b3 (Ne.symm e))
  · split
    · rename_i e; subst e; exact h.arow.set i v
    · rename_i e; exact h.arow.same (keep b4 (Ne.symm e))
  · obtain ⟨d1, d2, d3⟩ := h.done r hr
    have e1 : (if b = b2 then fun r => if r = i then v else vl r else vl) r = vl r := by split <;> simp [show r ≠ i by omega]
    have e2 : (if b = b3 then fun r => if r = i then v else vf r else vf) r = vf r := by split <;> simp [show r ≠ i by omega]
    have e3 : (if b = b4 then fun r => if r = i then v else va r else va) r = va r := by split <;> simp [show r ≠ i by omega]
    rw [e1, e2, e3]
    exact ⟨d1.keep (Nat.le_refl _) fun k hk _ => keep k (kC k hk), d2.keep (Nat.le_refl _) fun k hk _ => keep k (kC k hk), d3.keep (Nat.le_refl _) fun k hk _ => keep k (kC k hk)⟩

/-- A new round: all that is there is old. -/
theorem Core.up (h : Core B C T b0 b1 b2 b3 b4 b5 n i D vl vf va w0 w) : Core B C w.heap.size b0 b1 b2 b3 b4 b5 n i D vl vf va w0 w :=
  ⟨h.below, Nat.le_refl _, Nat.le_trans h.ct h.size, h.le, h.lt, h.ne2, h.ne3, h.ne4, h.res, h.g, h.addrs, h.idx, h.lrow, h.frow, h.arow, fun r hr => by
    obtain ⟨d1, d2, d3⟩ := h.done r hr
    exact ⟨d1.keep h.size fun _ _ _ => rfl, d2.keep h.size fun _ _ _ => rfl, d3.keep h.size fun _ _ _ => rfl⟩⟩

/-- A row more is done. -/
theorem Core.next (h : Core B C T b0 b1 b2 b3 b4 b5 n i D vl vf va w0 w) (hd : IntsIn w C T (vl i) (finL D n i) ∧ IntsIn w C T (vf i) (finF D n i) ∧ AddrsIn w C T (va i) (finA D n i)) : Core B C T b0 b1 b2 b3 b4 b5 n (i + 1) D vl vf va w0 w :=
  ⟨h.below, h.size, h.ct, h.le, h.lt, h.ne2, h.ne3, h.ne4, h.res, h.g, h.addrs, h.idx, h.lrow, h.frow, h.arow, fun r hr => by
    by_cases e : r = i
    · subst e; exact hd
    · exact h.done r (by omega)⟩

/-- The second loop begins. -/
theorem G1.core (h : G1 B b0 b1 b2 b3 b4 b5 n n D w0 w) : Core B w.heap.size w.heap.size b0 b1 b2 b3 b4 b5 n 0 D (fun _ => .slice none 0 0) (fun _ => .slice none 0 0) (fun _ => .slice none 0 0) w0 w := by
  have lt : ∀ {k o}, w.heap[k]? = some o → k < w.heap.size := fun h => (Array.getElem?_eq_some_iff.1 h).1
  obtain ⟨a01, a02, a03, a04, a05, a12, a13, a14, a15⟩ := h.apart
  obtain ⟨cur, h0, -⟩ := h.addrs.row
  obtain ⟨⟨es, clock, h1, -⟩, -⟩ := h.idx
  have h2 := h.lists
  have h3 := h.fwds
  have h4 := h.fas
  have h5 := h.g
  have row : ∀ {b t}, w.heap[b]? = some (obL n t) → SlRow w b t n (fun _ => .slice none 0 0) := fun hb => by
    refine ⟨_, hb, by simp [madeCells], fun r hr => ?_⟩
    simp [madeCells, hr, Nat.mod_one]
  have n24 : b2 ≠ b4 := fun e => by subst e; unfold obL at h2 h4; rw [h2] at h4; injection h4 with h4; injection h4 with _ h4 _; cases h4
  have n34 : b3 ≠ b4 := fun e => by subst e; unfold obL at h3 h4; rw [h3] at h4; injection h4 with h4; injection h4 with _ h4 _; cases h4
  have n25 : b2 ≠ b5 := fun e => by subst e; unfold obL at h2; rw [h2] at h5; injection h5 with h5; injection h5 with _ h5 _; cases h5
  have n35 : b3 ≠ b5 := fun e => by subst e; unfold obL at h3; rw [h3] at h5; injection h5 with h5; injection h5 with _ h5 _; cases h5
  have n45 : b4 ≠ b5 := fun e => by subst e; unfold obL at h4; rw [h4] at h5; injection h5 with h5; injection h5 with _ h5 _; cases h5
  exact ⟨h.below, Nat.le_refl _, Nat.le_refl _, h.le, ⟨lt h0, lt h1, lt h2, lt h3, lt h4, lt h5⟩, ⟨Ne.symm a02, Ne.symm a12, h.ne, n24, n25⟩, ⟨Ne.symm a03, Ne.symm a13, n34, n35⟩, ⟨Ne.symm a04, Ne.symm a14, n45⟩, h.res, h.g, h.addrs, h.idx, row h2, row h3, row h4, fun r hr => absurd hr (Nat.not_lt_zero _)⟩
end
end Go.Proofs.Qxb6601491a
