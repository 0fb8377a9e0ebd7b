/-
  WHAT STANDS IN MEMORY WHILE FnStaticChildrenAddSwitchesToTheMapAfterMaxFew RUNS.
-/
import Derived.Test.Qxb6601888aShape
namespace Go.Proofs.Qxb6601888a
open Go.RowKit

/-- The cells of the row of texts, of the row of nodes. -/
def txtCells (l : Kids) : List Value := l.map fun p => .string p.1
def ptrCells (l : Kids) : List Value := l.map fun p => .pointer (some p.2)

/-- All blocks but rows of type T are as they were. -/
def Kept (T : TypeId) (w w' : World) : Prop := ∀ (k : Nat) (o : Obj), w.heap[k]? = some o → (∀ c, o ≠ .cells c T (0, 0)) → w'.heap[k]? = w.heap[k]?

theorem St.kept {w w' : World} {base S : Nat} {l : Kids} {T : TypeId} (h : St w base S l) (hk : Kept T w w') (h34 : T ≠ 34) (h68 : T ≠ 68) : St w' base S l := by
  obtain ⟨vf, vm, hS, h2⟩ := h
  refine ⟨vf, vm, (hk S _ hS fun c e => by cases e; exact h34 rfl).trans hS, ?_⟩
  rcases h2 with ⟨h3, h4, h5⟩ | ⟨h3, h4, m, es, c, h5, h6, h7, h8⟩
  · refine .inl ⟨h3, h4, ownsRow_congr h5 fun g hg => ?_⟩
    obtain ⟨_, cur, hc⟩ := own_type h5 hg
    exact hk g _ hc fun c e => by cases e; exact h68 rfl
  · exact .inr ⟨h3, h4, m, es, c, h5, h6, (hk m _ h7 fun c e => by cases e).trans h7, h8⟩

theorem own_kept {w w' : World} {base e size n : Nat} {v : Value} {xs : List Value} {T : TypeId} (h : w.ownsRow base e size v n xs) (hk : Kept T w w') (hT : T ≠ e) : w'.ownsRow base e size v n xs :=
  ownsRow_congr h fun g hg => by
    obtain ⟨_, cur, hc⟩ := own_type h hg
    exact hk g _ hc fun c e => by cases e; exact hT rfl

theorem kept_grown {w w' : World} {base T size n g : Nat} {v : Value} {xs : List Value} {o : Obj} (h : w.ownsRow base T size v n xs) (hv : v.ownBlock = some g) (hg : (w.alloc o).grownBy w' (some g)) : Kept T w w' := by
  intro k o' hk ho
  have hlt := lt_of_heap hk
  rw [hg.block k (by simp; omega) (fun e => by
    cases e
    obtain ⟨_, cur, hc⟩ := own_type h hv
    rw [hk] at hc; cases hc; exact ho _ rfl), heap_alloc_lt hlt]

/-- WHAT STANDS: the row of texts, the row of nodes, the children; all below is as it was. -/
structure InvB (base S A0 N0 n ca cn : Nat) (la ln l : Kids) (w0 w : World) : Prop where
  below : Below base w0 w
  size : base ≤ w.heap.size
  lenA : la.length = ca
  lenN : ln.length = cn
  added : w.ownsRow base 9 1 (.slice (some ⟨A0, 0, none⟩) ca n) ca (txtCells la)
  nodes : w.ownsRow base 37 1 (.slice (some ⟨N0, 0, none⟩) cn n) cn (ptrCells ln)
  st : St w base S l

section
variable {base S A0 N0 n ca cn : Nat} {la ln l : Kids} {w0 w w' : World}

theorem InvB.later (h : InvB base S A0 N0 n ca cn la ln l w0 w) (hb : Below w.heap.size w w') : InvB base S A0 N0 n ca cn la ln l w0 w' :=
  ⟨h.below.trans (hb.mono h.size), Nat.le_trans h.size hb.size, h.lenA, h.lenN, ownsRow_congr h.added fun g hg => hb.block g (h.added.lt g hg).2, ownsRow_congr h.nodes fun g hg => hb.block g (h.nodes.lt g hg).2, h.st.below hb⟩

theorem InvB.drewN (h : InvB base S A0 N0 n ca cn la ln l w0 w) (q : Nat) : InvB base S A0 N0 n ca cn la ln l w0 (w.drewN q) :=
  h.later ⟨rfl, rfl, rfl, Nat.le_refl _, fun _ _ => rfl⟩

theorem InvB.alloc (h : InvB base S A0 N0 n ca cn la ln l w0 w) (o : Obj) : InvB base S A0 N0 n ca cn la ln l w0 (w.alloc o) :=
  h.later ((Below.refl _ _).alloc (Nat.le_refl _) _)

/-- Behind an add. -/
theorem InvB.put {l' : Kids} (h : InvB base S A0 N0 n ca cn la ln l w0 w) (hk : Keep base S w w') (hs : St w' base S l') : InvB base S A0 N0 n ca cn la ln l' w0 w' := by
  obtain ⟨c, hc⟩ := h.st.own
  have ne : ∀ {k : Nat} {c' : Array Value} {T : TypeId} {fr : Nat × Nat}, w.heap[k]? = some (Obj.cells c' T fr) → T ≠ 34 → k ≠ S := fun hx hT e => by rw [e, hc] at hx; cases hx; exact hT rfl
  refine ⟨h.below.trans hk.below, Nat.le_trans h.size hk.below.size, h.lenA, h.lenN, ownsRow_congr h.added fun g hg => ?_, ownsRow_congr h.nodes fun g hg => ?_, hs⟩
  · obtain ⟨_, cur, hx⟩ := own_type h.added hg
    exact hk.rows g cur 9 _ hx (by decide) (ne hx (by decide))
  · obtain ⟨_, cur, hx⟩ := own_type h.nodes hg
    exact hk.rows g cur 37 _ hx (by decide) (ne hx (by decide))

/-- Behind the append of a text. -/
theorem InvB.text {o : Obj} {t : ByteArray} {a : Addr} (h : InvB base S A0 N0 n ca cn la ln l w0 w) (hg : (w.alloc o).grownBy w' (some A0)) (ho : w'.ownsRow base 9 1 (.slice (some ⟨A0, 0, none⟩) (ca + 1) n) (ca + 1) (txtCells la ++ [.string t])) :
    InvB base S A0 N0 n (ca + 1) cn (la ++ [(t, a)]) ln l w0 w' := by
  have hk := kept_grown h.added rfl hg
  refine ⟨(h.below.alloc h.size _).grown hg (by have := h.size; simp; omega) (fun k e => by cases e; exact (own_type h.added rfl).1), Nat.le_trans h.size (by have := hg.size; simp at this; omega), by simp [h.lenA], h.lenN, ?_, own_kept h.nodes hk (by decide), h.st.kept hk (by decide) (by decide)⟩
  have e : txtCells (la ++ [(t, a)]) = txtCells la ++ [.string t] := by simp [txtCells]
  rw [e]; exact ho

/-- Behind the append of a node. -/
theorem InvB.node {o : Obj} {t : ByteArray} {a : Addr} (h : InvB base S A0 N0 n ca cn la ln l w0 w) (hg : (w.alloc o).grownBy w' (some N0)) (ho : w'.ownsRow base 37 1 (.slice (some ⟨N0, 0, none⟩) (cn + 1) n) (cn + 1) (ptrCells ln ++ [.pointer (some a)])) :
    InvB base S A0 N0 n ca (cn + 1) la (ln ++ [(t, a)]) l w0 w' := by
  have hk := kept_grown h.nodes rfl hg
  refine ⟨(h.below.alloc h.size _).grown hg (by have := h.size; simp; omega) (fun k e => by cases e; exact (own_type h.nodes rfl).1), Nat.le_trans h.size (by have := hg.size; simp at this; omega), h.lenA, by simp [h.lenN], own_kept h.added hk (by decide), ?_, h.st.kept hk (by decide) (by decide)⟩
  have e : ptrCells (ln ++ [(t, a)]) = ptrCells ln ++ [.pointer (some a)] := by simp [ptrCells]
  rw [e]; exact ho

theorem InvB.textAt (h : InvB base S A0 N0 n ca cn la ln l w0 w) (k : Nat) (hk : k < la.length) : w.cell? ⟨A0, k, none⟩ = some (.string la[k].1) := by
  have := h.added.cellAt k (by rw [← h.lenA]; omega)
  rw [this]; simp [txtCells, hk]

theorem InvB.nodeAt (h : InvB base S A0 N0 n ca cn la ln l w0 w) (k : Nat) (hk : k < ln.length) : w.cell? ⟨N0, k, none⟩ = some (.pointer (some ln[k].2)) := by
  have := h.nodes.cellAt k (by rw [← h.lenN]; omega)
  rw [this]; simp [ptrCells, hk]
end

/-- A pointer held against itself by '=='. -/
theorem eql_self (x : Addr) (w : World) : (binOp .eql 37 (.pointer (some x)) (.pointer (some x))).run Try.prog w = .ok (.bool true) w := by
  obtain ⟨j, hj⟩ := Option.isSome_iff_exists.1 Try.some64
  exact run_eql_ptr_same w x Try.underlying37 hj

theorem kids_length (G : Nat → ByteArray) (A : Nat → Addr) : ∀ i, (kids G A i).length ≤ i := by
  intro i
  induction i with
  | zero => simp [kids]
  | succ i ih =>
    simp only [kids, List.length_append]
    split <;> simp <;> omega

theorem apart_ne {l : Kids} (h : Apart l) {j k : Nat} (hj : j < l.length) (hk : k < l.length) (e : j ≠ k) : eqs l[j].1 l[k].1 = false := by
  rcases Nat.lt_or_gt_of_ne e with h1 | h1
  · exact h j k hj hk h1
  · have h2 := h k j hk hj h1
    cases hq : eqs l[j].1 l[k].1 with
    | false => rfl
    | true => rw [eqs_iff.2 (eqs_iff.1 hq).symm] at h2; cases h2
end Go.Proofs.Qxb6601888a
