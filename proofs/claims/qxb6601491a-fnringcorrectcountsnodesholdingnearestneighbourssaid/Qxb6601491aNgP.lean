/-
  THE GRAPH IN MEMORY WHILE newGraph LAYS IT: the row of a node's forward addresses.
-/
import Derived.Test.Qxb6601491aNgO
namespace Go.Proofs.Qxb6601491a
open Go.RowKit
open Go.Extern.Stop (cell)

/-- The cells of a list of addresses. -/
def adrs (xs : List (List UInt8)) : List Value := xs.flatMap fun x => x.map cell

theorem adrs_at : ∀ (xs : List (List UInt8)), (∀ x ∈ xs, x.length = 20) → ∀ k (hk : k < xs.length) j, j < 20 → (adrs xs)[k * 20 + j]? = (xs[k].map cell)[j]?
  | [], _, k, hk, _, _ => by simp at hk
  | x :: xs, h, 0, _, j, hj => by
    have hx : (x.map cell).length = 20 := by simp [h x (by simp)]
    simp only [adrs, List.flatMap_cons, List.getElem_cons_zero, Nat.zero_mul, Nat.zero_add]
    rw [List.getElem?_append_left (by omega)]
  | x :: xs, h, k + 1, hk, j, hj => by
    have hx : (x.map cell).length = 20 := by simp [h x (by simp)]
    have ih := adrs_at xs (fun y hy => h y (by simp [hy])) k (by simpa using hk) j hj
    simp only [adrs, List.flatMap_cons, List.getElem_cons_succ] at ih ⊢
    rw [List.getElem?_append_right (by omega), hx, show (k + 1) * 20 + j - 20 = k * 20 + j by omega]
    exact ih

theorem adrs_length : ∀ (xs : List (List UInt8)), (∀ x ∈ xs, x.length = 20) → (adrs xs).length = xs.length * 20
  | [], _ => rfl
  | x :: xs, h => by
    have ih := adrs_length xs (fun y hy => h y (by simp [hy]))
    have hx := h x (by simp)
    simp only [adrs, List.flatMap_cons, List.length_append, List.length_map, List.length_cons] at ih ⊢
    omega

/-- A row of addresses of the round's own, nil where it is empty. -/
structure ARow (T : Nat) (v : Value) (xs : List (List UInt8)) (w : World) : Prop where
  own : w.ownsRow T 34 20 v xs.length (adrs xs)
  nil : xs = [] → v = .slice none 0 0
  len : ∀ x ∈ xs, x.length = 20

section
variable {B C T b0 b1 b2 b3 b4 b5 n i : Nat} {D : Nat → NodeD} {vl vf va : Nat → Value} {w0 w w' w1 w2 : World} {zl zf : List Int} {xs : List (List UInt8)}

theorem ARow.lt {v : Value} (h : ARow T v xs w) {g : Nat} (hg : v.ownBlock = some g) : T ≤ g ∧ g < w.heap.size := h.own.lt g hg

theorem ARow.keep {v : Value} (h : ARow T v xs w) (hk : ∀ g, v.ownBlock = some g → w'.heap[g]? = w.heap[g]?) : ARow T v xs w' := by
  refine ⟨⟨h.own.1, ?_⟩, h.nil, h.len⟩
  rcases h.own.2 with h0 | ⟨g, cap, cur, rfl, h1, h2, h3⟩
  · exact .inl h0
  · exact .inr ⟨g, cap, cur, rfl, h1, (hk g rfl).trans h2, h3⟩

theorem ARow.adrs {v : Value} (h : ARow T v xs w) (hC : C ≤ T) (hT : xs.length ≤ maxLen) : AddrsIn w C w.heap.size v xs := by
  by_cases e : xs = []
  · exact .inl ⟨h.nil e, e⟩
  · rcases h.own.2 with ⟨-, h0⟩ | ⟨g, cap, cur, rfl, h1, h2, h3⟩
    · exact absurd (List.eq_nil_of_length_eq_zero h0) e
    · refine .inr ⟨e, hT, g, cap, Nat.le_trans hC h1, (Array.getElem?_eq_some_iff.1 h2).1, rfl, fun k hk => ⟨h.len _ (List.getElem_mem hk), fun j u hu => ?_⟩⟩
      have hj : j < 20 := by
        have := (List.getElem?_eq_some_iff.1 hu).1
        simpa [h.len _ (List.getElem_mem hk)] using this
      rw [h.own.cellAt (k * 20 + j) (by omega), adrs_at xs h.len k hk j hj]
      exact hu

theorem own_type' {base e size n g : Nat} {v : Value} {xs : List Value} (h : w.ownsRow base e size v n xs) (hg : v.ownBlock = some g) : ∃ cur, w.heap[g]? = some (.cells cur e (0, 0)) := by
  rcases h.2 with ⟨rfl, _⟩ | ⟨g', cap, cur, rfl, h1, h2, _⟩
  · cases hg
  · cases hg; exact ⟨cur, h2⟩

/-- Rows of other kinds are other blocks. -/
theorem rows_apart {v v' : Value} (h : IRow T v zl w) (h' : ARow T v' xs w) {g : Nat} (hg : v.ownBlock = some g) : v'.ownBlock ≠ some g := fun e => by
  obtain ⟨c, h1⟩ := own_type' h.own hg
  obtain ⟨c', h2⟩ := own_type' h'.own e
  rw [h1] at h2; cases h2

/-- WHAT STANDS WHILE THE FORWARD ADDRESSES ARE LAID. -/
structure MidA (B C T b0 b1 b2 b3 b4 b5 n i : Nat) (D : Nat → NodeD) (vl vf va : Nat → Value) (zl zf : List Int) (xs : List (List UInt8)) (w0 w : World) : Prop where
  mid : Mid B C T b0 b1 b2 b3 b4 b5 n i D vl vf va zl zf w0 w
  ra : ARow T (va i) xs w

theorem MidA.later (h : MidA B C T b0 b1 b2 b3 b4 b5 n i D vl vf va zl zf xs w0 w) (hb : Below w.heap.size w w') : MidA B C T b0 b1 b2 b3 b4 b5 n i D vl vf va zl zf xs w0 w' :=
  ⟨h.mid.later hb, h.ra.keep fun g hg => hb.block g (h.ra.lt hg).2⟩

theorem MidA.app {o : Obj} {v' : Value} {y : List UInt8} (h : MidA B C T b0 b1 b2 b3 b4 b5 n i D vl vf va zl zf xs w0 w) (hy : y.length = 20) (hg : (w.alloc o).grownBy w2 (va i).ownBlock)
    (ho : w2.ownsRow T 34 20 v' (xs.length + 1) (adrs xs ++ y.map cell)) :
    MidA B C T b0 b1 b2 b3 b4 b5 n i D vl vf (upV va i v') zl zf (xs ++ [y]) w0 (w2.setCell ⟨b4, i, none⟩ v') := by
  have hb4 : b4 < T := Nat.lt_of_lt_of_le h.mid.core.lt.2.2.2.2.1 h.mid.core.ct
  have hne : ∀ {g : Nat}, T ≤ g → g ≠ b4 := fun h => by omega
  have hbel := grown_below h.mid.core.size (fun g hg => (h.ra.lt hg).1) hg
  have keep : ∀ {v : Value} {zs : List Int}, IRow T v zs w → IRow T v zs w2 := fun hr => hr.keep fun g hg' => by
    have hlt := (hr.lt hg').2
    rw [hg.block g (by simp; omega) (fun e => rows_apart hr h.ra hg' e.symm)]
    exact Below.heap_alloc w o g hlt
  have hrl := keep h.mid.rl
  have hrf := keep h.mid.rf
  have e : adrs (xs ++ [y]) = adrs xs ++ y.map cell := by simp [Qxb6601491a.adrs]
  have hra : ARow T v' (xs ++ [y]) w2 := ⟨by rw [e]; simpa using ho, fun h0 => by simp at h0, fun x hx => by
    rcases List.mem_append.1 hx with hx | hx
    · exact h.ra.len x hx
    · simp at hx; subst hx; exact hy⟩
  refine ⟨⟨(h.mid.core.keep hbel).setA v', hrl.keep fun g hg' => Below.heap_setCell _ _ _ _ (hne (hrl.lt hg').1), hrf.keep fun g hg' => Below.heap_setCell _ _ _ _ (hne (hrf.lt hg').1), h.mid.sep⟩, ?_⟩
  rw [upV_at]
  exact hra.keep fun g hg' => Below.heap_setCell _ _ _ _ (hne (hra.lt hg').1)

/-- The row is done. -/
theorem MidA.fin (h : MidA B C T b0 b1 b2 b3 b4 b5 n i D vl vf va (finL D n i) (finF D n i) (finA D n i) w0 w) (h1 : (finL D n i).length ≤ maxLen) (h2 : (finF D n i).length ≤ maxLen) : Core B C w.heap.size b0 b1 b2 b3 b4 b5 n (i + 1) D vl vf va w0 w :=
  h.mid.core.up.next ⟨h.mid.rl.ints h.mid.core.ct h1, h.mid.rf.ints h.mid.core.ct h2, h.ra.adrs h.mid.core.ct (by simpa [finA] using h2)⟩

/-- A round begins. -/
theorem Core.mid (h : Core B C T b0 b1 b2 b3 b4 b5 n i D vl vf va w0 w) (h1 : vl i = .slice none 0 0) (h2 : vf i = .slice none 0 0) : Mid B C w.heap.size b0 b1 b2 b3 b4 b5 n i D vl vf va [] [] w0 w :=
  ⟨h.up, ⟨by rw [h1]; exact World.ownsRow_nil _ _ _ _, fun _ => h1⟩, ⟨by rw [h2]; exact World.ownsRow_nil _ _ _ _, fun _ => h2⟩, fun g hg => by rw [h1] at hg; cases hg⟩

theorem Mid.midA (h : Mid B C T b0 b1 b2 b3 b4 b5 n i D vl vf va zl zf w0 w) (h1 : va i = .slice none 0 0) : MidA B C T b0 b1 b2 b3 b4 b5 n i D vl vf va zl zf [] w0 w :=
  ⟨h, ⟨by rw [h1]; exact World.ownsRow_nil _ _ _ _, fun _ => h1, fun x hx => by cases hx⟩⟩
end
end Go.Proofs.Qxb6601491a
