/-
  WHAT STANDS IN MEMORY WHILE THE staticChildren LAWS RUN.
-/
import Derived.Test.Qxb6601888aKids
namespace Go.Proofs.Qxb6601888a
open Go.RowKit

/-- A list of texts of the call's own (or an empty one, wherever). -/
def TextsAt (w : World) (a : Option Addr) (n : Nat) (G : Nat → ByteArray) : Prop :=
  n = 0 ∨ ∃ T0 cur, a = some ⟨T0, 0, none⟩ ∧ w.heap[T0]? = some (.cells cur 9 (0, 0)) ∧ ∀ t, t < n → cur[t]? = some (.string (G t))

theorem TextsAt.strs {w : World} {a : Option Addr} {n : Nat} {G : Nat → ByteArray} (h : TextsAt w a n G) : Strs w a n G := by
  rcases h with h | ⟨T0, cur, rfl, h1, h2⟩
  · exact .inl h
  · exact .inr ⟨T0, 0, rfl, fun t ht => by simp [World.cell?, h1, h2 t ht]⟩

/-- The row of pointers. -/
def NodesAt (w : World) (M n : Nat) (N : Nat → Value) : Prop :=
  ∃ cur : Array Value, w.heap[M]? = some (.cells cur 37 (0, 0)) ∧ ∀ j, j < n → cur[j]? = some (N j)

theorem NodesAt.cell {w : World} {M n : Nat} {N : Nat → Value} (h : NodesAt w M n N) (j : Nat) (hj : j < n) : w.cell? ⟨M, j, none⟩ = some (N j) := by
  obtain ⟨cur, h1, h2⟩ := h
  simp [World.cell?, h1, h2 j hj]

theorem NodesAt.frozen {w : World} {M n : Nat} {N : Nat → Value} (h : NodesAt w M n N) (j : Nat) : w.frozen? ⟨M, j, none⟩ = false := by
  obtain ⟨cur, h1, _⟩ := h
  simp [World.frozen?, h1]

theorem NodesAt.congr {w : World} {M n : Nat} {N N' : Nat → Value} (h : NodesAt w M n N) (e : ∀ j, j < n → N j = N' j) : NodesAt w M n N' := by
  obtain ⟨cur, h1, h2⟩ := h
  exact ⟨cur, h1, fun j hj => by rw [h2 j hj, e j hj]⟩

theorem NodesAt.set {w : World} {M n : Nat} {N : Nat → Value} (h : NodesAt w M n N) (i : Nat) (v : Value) : NodesAt (w.setCell ⟨M, i, none⟩ v) M n (fun j => if j = i then v else N j) := by
  obtain ⟨cur, h1, h2⟩ := h
  refine ⟨_, heap_setCell_same w M i cur 37 v h1, fun j hj => ?_⟩
  have hs : j < cur.size := (Array.getElem?_eq_some_iff.1 (h2 j hj)).1
  rw [Array.getElem?_setIfInBounds]
  by_cases e : i = j
  · subst e; simp [hs]
  · simp [e, Ne.symm e, h2 j hj]

/-- WHAT STANDS: the texts, the probes, the row of nodes, the children. -/
structure Inv (base S M n m : Nat) (a1 a2 : Option Addr) (G K : Nat → ByteArray) (N : Nat → Value) (l : Kids) (w0 w : World) : Prop where
  below : Below base w0 w
  size : base ≤ w.heap.size
  texts : TextsAt w a1 n G
  probes : TextsAt w a2 m K
  nodes : NodesAt w M n N
  st : St w base S l

theorem St.own {w : World} {base S : Nat} {l : Kids} (h : St w base S l) : ∃ c, w.heap[S]? = some (.cells c 34 (0, 0)) := by
  obtain ⟨vf, vm, h1, _⟩ := h
  exact ⟨_, h1⟩

theorem TextsAt.same {w w' : World} {a : Option Addr} {n : Nat} {G : Nat → ByteArray} (h : TextsAt w a n G) (e : ∀ (k : Nat) (c : Array Value), w.heap[k]? = some (Obj.cells c 9 (0, 0)) → w'.heap[k]? = w.heap[k]?) : TextsAt w' a n G := by
  rcases h with h | ⟨T0, cur, rfl, h1, h2⟩
  · exact .inl h
  · exact .inr ⟨T0, cur, rfl, (e T0 cur h1).trans h1, h2⟩

theorem NodesAt.same {w w' : World} {M n : Nat} {N : Nat → Value} (h : NodesAt w M n N) (e : ∀ (k : Nat) (c : Array Value), w.heap[k]? = some (Obj.cells c 37 (0, 0)) → w'.heap[k]? = w.heap[k]?) : NodesAt w' M n N := by
  obtain ⟨cur, h1, h2⟩ := h
  exact ⟨cur, (e M cur h1).trans h1, h2⟩

section
variable {base S M n m : Nat} {a1 a2 : Option Addr} {G K : Nat → ByteArray} {N : Nat → Value} {l : Kids} {w0 w w' : World}

/-- All that lay there is as it was. -/
theorem Inv.later (h : Inv base S M n m a1 a2 G K N l w0 w) (hb : Below w.heap.size w w') : Inv base S M n m a1 a2 G K N l w0 w' :=
  ⟨h.below.trans (hb.mono h.size), Nat.le_trans h.size hb.size, h.texts.same fun _ _ hk => hb.block _ (lt_of_heap hk), h.probes.same fun _ _ hk => hb.block _ (lt_of_heap hk), h.nodes.same fun _ _ hk => hb.block _ (lt_of_heap hk), h.st.below hb⟩

theorem Inv.drewN (h : Inv base S M n m a1 a2 G K N l w0 w) (q : Nat) : Inv base S M n m a1 a2 G K N l w0 (w.drewN q) :=
  h.later ⟨rfl, rfl, rfl, Nat.le_refl _, fun _ _ => rfl⟩

theorem Inv.drew (h : Inv base S M n m a1 a2 G K N l w0 w) : Inv base S M n m a1 a2 G K N l w0 w.drew :=
  h.later ⟨rfl, rfl, rfl, Nat.le_refl _, fun _ _ => rfl⟩

theorem Inv.alloc (h : Inv base S M n m a1 a2 G K N l w0 w) (o : Obj) : Inv base S M n m a1 a2 G K N l w0 (w.alloc o) :=
  h.later ((Below.refl _ _).alloc (Nat.le_refl _) _)

/-- A store into the row of nodes. -/
theorem Inv.store (h : Inv base S M n m a1 a2 G K N l w0 w) (hM : base ≤ M) (i : Nat) (v : Value) : Inv base S M n m a1 a2 G K (fun j => if j = i then v else N j) l w0 (w.setCell ⟨M, i, none⟩ v) := by
  obtain ⟨cur, hc, _⟩ := h.nodes
  have ne : ∀ {k : Nat} {c : Array Value} {T : TypeId} {fr : Nat × Nat}, w.heap[k]? = some (Obj.cells c T fr) → T ≠ 37 → k ≠ M := fun hx hT e => by rw [e, hc] at hx; cases hx; exact hT rfl
  have keep : ∀ {k : Nat}, k ≠ M → (w.setCell ⟨M, i, none⟩ v).heap[k]? = w.heap[k]? := fun hk => Below.heap_setCell _ _ _ _ hk
  refine ⟨h.below.setCell hM _, by simpa using h.size, h.texts.same fun k c hk => keep (ne hk (by decide)), h.probes.same fun k c hk => keep (ne hk (by decide)), h.nodes.set i v, ?_⟩
  obtain ⟨vf, vm, hS, h2⟩ := h.st
  refine ⟨vf, vm, (keep (ne hS (by decide))).trans hS, ?_⟩
  rcases h2 with ⟨h3, h4, h5⟩ | ⟨h3, h4, b, es, c, h5, h6, h7, h8⟩
  · exact .inl ⟨h3, h4, ownsRow_setCell_other h5 (fun e => by
      obtain ⟨_, cur', hc'⟩ := own_type h5 e
      exact ne hc' (by decide) rfl) v⟩
  · exact .inr ⟨h3, h4, b, es, c, h5, h6, (keep (fun e => by rw [e, hc] at h7; cases h7)).trans h7, h8⟩

/-- Behind an add. -/
theorem Inv.added {l' : Kids} (h : Inv base S M n m a1 a2 G K N l w0 w) (hk : Keep base S w w') (hs : St w' base S l') : Inv base S M n m a1 a2 G K N l' w0 w' := by
  obtain ⟨c, hc⟩ := h.st.own
  have ne : ∀ {k : Nat} {c' : Array Value} {T : TypeId} {fr : Nat × Nat}, w.heap[k]? = some (Obj.cells c' T fr) → T ≠ 34 → k ≠ S := fun hx hT e => by rw [e, hc] at hx; cases hx; exact hT rfl
  exact ⟨h.below.trans hk.below, Nat.le_trans h.size hk.below.size, h.texts.same fun k c hx => hk.rows k c 9 _ hx (by decide) (ne hx (by decide)), h.probes.same fun k c hx => hk.rows k c 9 _ hx (by decide) (ne hx (by decide)),
    h.nodes.same fun k c hx => hk.rows k c 37 _ hx (by decide) (ne hx (by decide)), hs⟩

theorem Inv.turn {N' : Nat → Value} (h : Inv base S M n m a1 a2 G K N l w0 w) (e : ∀ j, j < n → N j = N' j) : Inv base S M n m a1 a2 G K N' l w0 w :=
  ⟨h.below, h.size, h.texts, h.probes, h.nodes.congr e, h.st⟩
end
end Go.Proofs.Qxb6601888a
