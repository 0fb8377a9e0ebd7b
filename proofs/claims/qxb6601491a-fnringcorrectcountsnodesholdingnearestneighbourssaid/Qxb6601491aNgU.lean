/-
  THE GRAPH AS newGraph LEAVES IT.
-/
import Derived.Test.Qxb6601491aNgR
namespace Go.Proofs.Qxb6601491a
open Go.RowKit
open Go.Extern.Stop (cell)

theorem ld70 (p : Addr) : loadVar 70 p = vld 70 p := rfl
theorem st70 (p : Addr) (v : Value) : storeVar 70 p v = vst 70 p v := rfl

/-- A list of addresses in memory, nil where it is empty. -/
def AdrsAt (w : World) (v : Value) (xs : List (List UInt8)) : Prop :=
  (v = .slice none 0 0 ∧ xs = []) ∨ (xs ≠ [] ∧ xs.length ≤ maxLen ∧ ∃ blk cap, v = .slice (some ⟨blk, 0, none⟩) xs.length cap ∧ ∀ k (hk : k < xs.length), xs[k].length = 20 ∧ w.rangeAt blk (k * 20) (xs[k].map cell))

/-- THE GRAPH: its five fields' rows. -/
structure Gr (b0 b1 b2 b3 b4 n : Nat) (D : Nat → NodeD) (vl vf va : Nat → Value) (w : World) : Prop where
  addrs : ∀ j, j < n → w.rangeAt b0 (j * 20) ((D j).addr.map cell)
  idx : IdxAt w b1 (idxL D n)
  lrow : ∀ r, r < n → w.cell? ⟨b2, r, none⟩ = some (vl r)
  frow : ∀ r, r < n → w.cell? ⟨b3, r, none⟩ = some (vf r)
  arow : ∀ r, r < n → w.cell? ⟨b4, r, none⟩ = some (va r)
  done : ∀ r, r < n → IntsAt w (vl r) (finL D n r) ∧ IntsAt w (vf r) (finF D n r) ∧ AdrsAt w (va r) (finA D n r)

section
variable {B C T b0 b1 b2 b3 b4 b5 n : Nat} {D : Nat → NodeD} {vl vf va : Nat → Value} {w0 w w' : World}

theorem AdrsAt.below {v : Value} {xs : List (List UInt8)} (h : AdrsAt w v xs) (hb : Below w.heap.size w w') : AdrsAt w' v xs := by
  rcases h with h | ⟨h1, h2, blk, cap, h3, h4⟩
  · exact .inl h
  · exact .inr ⟨h1, h2, blk, cap, h3, fun k hk => ⟨(h4 k hk).1, rangeAt_below (h4 k hk).2 hb⟩⟩

theorem Gr.later (h : Gr b0 b1 b2 b3 b4 n D vl vf va w) (hb : Below w.heap.size w w') : Gr b0 b1 b2 b3 b4 n D vl vf va w' := by
  have cl : ∀ {b r : Nat} {v : Value}, w.cell? ⟨b, r, none⟩ = some v → w'.cell? ⟨b, r, none⟩ = some v := fun {b r v} e =>
    (hb.cell (p := ⟨b, r, none⟩) (World.block_lt_of_cell? w _ e)).trans e
  obtain ⟨⟨es, clock, x1, x2⟩, x3⟩ := h.idx
  exact ⟨fun j hj => rangeAt_below (h.addrs j hj) hb, ⟨⟨es, clock, (hb.block b1 (Array.getElem?_eq_some_iff.1 x1).1).trans x1, x2⟩, x3⟩, fun r hr => cl (h.lrow r hr), fun r hr => cl (h.frow r hr), fun r hr => cl (h.arow r hr),
    fun r hr => ⟨(h.done r hr).1.below hb, (h.done r hr).2.1.below hb, (h.done r hr).2.2.below hb⟩⟩

/-- What the second loop leaves is the graph; the store of the result is at another block. -/
theorem Core.gr (h : Core B C T b0 b1 b2 b3 b4 b5 n n D vl vf va w0 w) (hk : ∀ k, k ≠ B → w'.heap[k]? = w.heap[k]?) : Gr b0 b1 b2 b3 b4 n D vl vf va w' := by
  obtain ⟨l0, l1, l2, l3, l4, l5⟩ := h.le
  obtain ⟨t0, t1, t2, t3, t4, t5⟩ := h.lt
  have cl : ∀ {b r : Nat} {v : Value}, b ≠ B → w.cell? ⟨b, r, none⟩ = some v → w'.cell? ⟨b, r, none⟩ = some v := fun {b r v} hb e =>
    (World.cell?_of_block (a := ⟨b, r, none⟩) (hk b hb)).trans e
  have il : ∀ {v : Value} {zs : List Int}, IntsIn w C T v zs → IntsAt w' v zs := fun hz => by
    rcases hz with hz | ⟨h1, h2, blk, cap, h3, h4, h5, h6⟩
    · exact .inl hz
    · exact .inr ⟨h1, h2, blk, cap, h5, fun k hk' => cl (by omega) (h6 k hk')⟩
  have al : ∀ {v : Value} {xs : List (List UInt8)}, AddrsIn w C T v xs → AdrsAt w' v xs := fun hz => by
    rcases hz with hz | ⟨h1, h2, blk, cap, h3, h4, h5, h6⟩
    · exact .inl hz
    · exact .inr ⟨h1, h2, blk, cap, h5, fun k hk' => ⟨(h6 k hk').1, fun j u hu => cl (by omega) ((h6 k hk').2 j u hu)⟩⟩
  obtain ⟨⟨es, clock, x1, x2⟩, x3⟩ := h.idx
  exact ⟨fun j hj k u hu => cl (by omega) (h.addrs.done j hj k u hu), ⟨⟨es, clock, (hk b1 (by omega)).trans x1, x2⟩, x3⟩, fun r hr => cl (by omega) (h.lrow.cell r hr).1, fun r hr => cl (by omega) (h.frow.cell r hr).1, fun r hr => cl (by omega) (h.arow.cell r hr).1,
    fun r hr => ⟨il (h.done r hr).1, il (h.done r hr).2.1, al (h.done r hr).2.2⟩⟩

/-- The result's own cells, stored and read. -/
theorem Core.out (h : Core B C T b0 b1 b2 b3 b4 b5 n n D vl vf va w0 w) :
    (vld 70 ⟨b5, 0, none⟩).run Try.prog w = .ok (aggV (grV n b0 b1 b2 b3 b4)) w ∧ ∃ w', (vst 70 ⟨B, 0, none⟩ (aggV (grV n b0 b1 b2 b3 b4))).run Try.prog w = .ok () w' ∧ (vld 70 ⟨B, 0, none⟩).run Try.prog w' = .ok (aggV (grV n b0 b1 b2 b3 b4)) w' ∧
      Gr b0 b1 b2 b3 b4 n D vl vf va w' ∧ Below B w0 w' := by
  have hone : ∀ v ∈ grV n b0 b1 b2 b3 b4, v.oneCell' = true := by
    intro v hv
    simp only [grV, List.mem_cons, List.not_mem_nil, or_false] at hv
    rcases hv with rfl | rfl | rfl | rfl | rfl <;> rfl
  obtain ⟨c, r1, r2⟩ := h.res
  have ht : w.there B 0 5 := fun j hj => by
    constructor
    · simp only [World.cell?, r1]; simp [r2, hj]
    · simp only [World.frozen?, r1]; simp
  refine ⟨ldV_of Try.underlying70 rfl (by rw [Try.size70]; rfl) fun j v hv => ?_, _, stV_of (by rw [Try.size70]; rfl) ht hone, ldV_of Try.underlying70 rfl (by rw [Try.size70]; rfl) (World.rangeAt_setCells_same _ _ _ _ ht), h.gr fun k hk => heap_setCells_ne hk _ _ _, Below.setCells (Nat.le_refl _) _ _ _ h.below⟩
  simp only [World.cell?, h.g]
  simpa using hv
end
end Go.Proofs.Qxb6601491a
