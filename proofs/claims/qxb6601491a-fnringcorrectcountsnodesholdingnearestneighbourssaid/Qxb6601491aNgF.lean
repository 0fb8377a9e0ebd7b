/-
  ROWS OF STRUCTS OF THE CALL's OWN, FILLED ONE AFTER THE OTHER.
-/
import Derived.Test.Qxb6601491aNgE
namespace Go.Proofs.Qxb6601491a
open Go.RowKit
open Go.Extern.Stop (cell)

theorem heap_setCells_ne {b k : Nat} (h : k ≠ b) : ∀ (vs : List Value) (o : Nat) (w : World), (w.setCells b o vs).heap[k]? = w.heap[k]?
  | [], _, _ => rfl
  | v :: r, o, w => by rw [World.setCells, heap_setCells_ne h r]; exact Below.heap_setCell _ _ _ _ h

theorem heap_setCells_same {b : Nat} {t : TypeId} : ∀ (vs : List Value) (o : Nat) (w : World) (cur : Array Value), w.heap[b]? = some (.cells cur t (0, 0)) → ∃ cur', (w.setCells b o vs).heap[b]? = some (.cells cur' t (0, 0)) ∧ cur'.size = cur.size
  | [], _, _, cur, h => ⟨cur, h, rfl⟩
  | v :: r, o, w, cur, h => by
    obtain ⟨c, h1, h2⟩ := heap_setCells_same r (o + 1) (w.setCell ⟨b, o, none⟩ v) _ (heap_setCell_same w b o cur t v h)
    exact ⟨c, h1, by simpa using h2⟩

/-- A row of n structs of 22 cells each at block T0, the first i of them laid. -/
structure RowInv (T0 : Nat) (ty : TypeId) (n i : Nat) (C : Nat → List Value) (w0 w : World) : Prop where
  below : Below T0 w0 w
  row : ∃ cur, w.heap[T0]? = some (.cells cur ty (0, 0)) ∧ cur.size = n * 22
  done : ∀ j, j < i → w.rangeAt T0 (j * 22) (C j)

theorem RowInv.made {w w1 : World} {ty : TypeId} {n : Nat} {xs : List Value} {C : Nat → List Value} (hown : w1.ownsRow w.heap.size ty 22 (.slice (some ⟨w.heap.size, 0, none⟩) n n) n xs) (hgrow : w.grownBy w1 none) : RowInv w.heap.size ty n 0 C w w1 := by
  refine ⟨(Below.refl _ _).grown hgrow (Nat.le_refl _) (fun k hk => by cases hk), ?_, fun j hj => absurd hj (Nat.not_lt_zero _)⟩
  rcases hown.2 with ⟨h, _⟩ | ⟨g, cap, cur, h, _, hg, _, _, hs, _⟩
  · cases h
  · cases h
    exact ⟨cur, hg, hs⟩

section
variable {T0 : Nat} {ty : TypeId} {n i : Nat} {C : Nat → List Value} {w0 w w' : World}

theorem RowInv.lt (h : RowInv T0 ty n i C w0 w) : T0 < w.heap.size := by
  obtain ⟨cur, h1, _⟩ := h.row
  exact (Array.getElem?_eq_some_iff.1 h1).1

theorem RowInv.there (h : RowInv T0 ty n i C w0 w) (j : Nat) (hj : j < n) : w.there T0 (j * 22) 22 := fun k hk => by
  obtain ⟨cur, h1, h2⟩ := h.row
  have : j * 22 + k < cur.size := by rw [h2]; omega
  constructor
  · simp [World.cell?, h1, this]
  · simp [World.frozen?, h1]

theorem RowInv.later (h : RowInv T0 ty n i C w0 w) (hb : Below w.heap.size w w') : RowInv T0 ty n i C w0 w' := by
  refine ⟨h.below.trans (hb.mono (Nat.le_of_lt h.lt)), ?_, fun j hj => rangeAt_below (h.done j hj) hb⟩
  obtain ⟨cur, h1, h2⟩ := h.row
  exact ⟨cur, (hb.block T0 h.lt).trans h1, h2⟩

theorem RowInv.put (h : RowInv T0 ty n i C w0 w) (hi : i < n) (hC : ∀ j, j < n → (C j).length = 22) : RowInv T0 ty n (i + 1) C w0 (w.setCells T0 (i * 22) (C i)) := by
  refine ⟨Below.setCells (Nat.le_refl _) _ _ _ h.below, ?_, fun j hj => ?_⟩
  · obtain ⟨cur, h1, h2⟩ := h.row
    obtain ⟨c, h3, h4⟩ := heap_setCells_same (C i) (i * 22) w cur h1
    exact ⟨c, h3, by rw [h4, h2]⟩
  · by_cases e : j = i
    · subst e
      exact World.rangeAt_setCells_same _ _ _ _ (by rw [hC j hi]; exact h.there j hi)
    · refine World.rangeAt_setCells_apart (h.done j (by omega)) _ _ _ (.inr ?_)
      rw [hC j (by omega), hC i hi]
      omega

theorem RowInv.turn {C' : Nat → List Value} (h : RowInv T0 ty n i C w0 w) (e : ∀ j, j < i → C j = C' j) : RowInv T0 ty n i C' w0 w :=
  ⟨h.below, h.row, fun j hj => by rw [← e j hj]; exact h.done j hj⟩
end

/-- The edges at a slice of the call's own, above block T. -/
def EdgesOwn (w : World) (T : Nat) (v : Value) (ne : Nat) (E : Nat → EdgeD) : Prop :=
  ∃ a cap, v = .slice a ne cap ∧ (a = none → cap = 0) ∧ ne ≤ maxLen ∧ (ne = 0 ∨ ∃ blk, T < blk ∧ a = some ⟨blk, 0, none⟩ ∧ ∀ k, k < ne → (E k).addr.length = 20 ∧ w.rangeAt blk (k * 22) (edgeCells (E k)))

theorem EdgesOwn.at {w : World} {T : Nat} {v : Value} {ne : Nat} {E : Nat → EdgeD} (h : EdgesOwn w T v ne E) : EdgesAt w v ne E := by
  obtain ⟨a, cap, h1, h2, h3, h4⟩ := h
  refine ⟨a, cap, h1, h2, h3, ?_⟩
  rcases h4 with h4 | ⟨blk, -, h5, h6⟩
  · exact .inl h4
  · exact .inr ⟨blk, 0, h5, fun k hk => ⟨(h6 k hk).1, by rw [Nat.zero_add]; exact (h6 k hk).2⟩⟩

theorem EdgesOwn.later {w w' : World} {T : Nat} {v : Value} {ne : Nat} {E : Nat → EdgeD} (h : EdgesOwn w T v ne E) (hb : Below w.heap.size w w') : EdgesOwn w' T v ne E := by
  obtain ⟨a, cap, h1, h2, h3, h4⟩ := h
  refine ⟨a, cap, h1, h2, h3, ?_⟩
  rcases h4 with h4 | ⟨blk, h0, h5, h6⟩
  · exact .inl h4
  · exact .inr ⟨blk, h0, h5, fun k hk => ⟨(h6 k hk).1, rangeAt_below (h6 k hk).2 hb⟩⟩

theorem EdgesOwn.set {w : World} {T : Nat} {v : Value} {ne : Nat} {E : Nat → EdgeD} (h : EdgesOwn w T v ne E) (o : Nat) (vs : List Value) : EdgesOwn (w.setCells T o vs) T v ne E := by
  obtain ⟨a, cap, h1, h2, h3, h4⟩ := h
  refine ⟨a, cap, h1, h2, h3, ?_⟩
  rcases h4 with h4 | ⟨blk, h0, h5, h6⟩
  · exact .inl h4
  · exact .inr ⟨blk, h0, h5, fun k hk => ⟨(h6 k hk).1, World.rangeAt_setCells_apart (h6 k hk).2 _ _ _ (.inl (by omega))⟩⟩

/-- A row of edges, filled. -/
theorem RowInv.edges {T0 T : Nat} {ty : TypeId} {n cap : Nat} {E : Nat → EdgeD} {w0 w : World} (h : RowInv T0 ty n n (fun k => edgeCells (E k)) w0 w) (hT : T < T0) (hn : n ≤ maxLen) (hE : ∀ k, k < n → (E k).addr.length = 20) : EdgesOwn w T (.slice (some ⟨T0, 0, none⟩) n cap) n E :=
  ⟨_, cap, rfl, (fun e => by cases e), hn, .inr ⟨T0, hT, rfl, fun k hk => ⟨hE k hk, h.done k hk⟩⟩⟩

/-- THE CLONE, i nodes laid. -/
structure CloneInv (T0 : Nat) (ty : TypeId) (n i : Nat) (D : Nat → NodeD) (vs : Nat → Value) (w0 w : World) : Prop where
  rows : RowInv T0 ty n i (fun j => nodeCells (D j) (vs j)) w0 w
  edges : ∀ j, j < i → EdgesOwn w T0 (vs j) (D j).ne (D j).edges

section
variable {T0 : Nat} {ty : TypeId} {n i : Nat} {D : Nat → NodeD} {vs : Nat → Value} {w0 w w' : World}
theorem CloneInv.later (h : CloneInv T0 ty n i D vs w0 w) (hb : Below w.heap.size w w') : CloneInv T0 ty n i D vs w0 w' :=
  ⟨h.rows.later hb, fun j hj => (h.edges j hj).later hb⟩

theorem CloneInv.put {v : Value} (h : CloneInv T0 ty n i D vs w0 w) (hi : i < n) (hl : ∀ j, j < n → (D j).addr.length = 20) (hv : EdgesOwn w T0 v (D i).ne (D i).edges) :
    CloneInv T0 ty n (i + 1) D (fun j => if j = i then v else vs j) w0 (w.setCells T0 (i * 22) (nodeCells (D i) v)) := by
  have h1 : RowInv T0 ty n i (fun j => nodeCells (D j) (if j = i then v else vs j)) w0 w := h.rows.turn fun j hj => by rw [if_neg (by omega)]
  have h2 := h1.put hi (fun j hj => node_len (hl j hj))
  simp only [if_true] at h2
  refine ⟨h2, fun j hj => ?_⟩
  by_cases e : j = i
  · subst e; simp only [if_true]; exact hv.set _ _
  · simp only [if_neg e]; exact (h.edges j (by omega)).set _ _

theorem CloneInv.nodes (h : CloneInv T0 ty n n D vs w0 w) (hl : ∀ j, j < n → (D j).addr.length = 20) : NodesAt w (some ⟨T0, 0, none⟩) n D vs :=
  .inr ⟨T0, 0, rfl, fun i hi => ⟨hl i hi, by rw [Nat.zero_add]; exact h.rows.done i hi, (h.edges i hi).at⟩⟩
end
end Go.Proofs.Qxb6601491a
