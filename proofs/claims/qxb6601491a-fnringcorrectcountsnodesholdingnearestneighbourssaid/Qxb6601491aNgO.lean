/-
  THE GRAPH IN MEMORY WHILE newGraph LAYS IT: one row of the second loop.
-/
import Derived.Test.Qxb6601491aNgN
namespace Go.Proofs.Qxb6601491a
open Go.RowKit
open Go.Extern.Stop (cell)

/-- One place of a row of values turned. -/
def upV (f : Nat → Value) (i : Nat) (v : Value) : Nat → Value := fun r => if r = i then v else f r

theorem upV_at (f : Nat → Value) (i : Nat) (v : Value) : upV f i v i = v := by simp [upV]

section
variable {B C T b0 b1 b2 b3 b4 b5 n i : Nat} {D : Nat → NodeD} {vl vf va : Nat → Value} {w0 w w' w1 w2 : World} {zl zf : List Int}

theorem Core.setL (h : Core B C T b0 b1 b2 b3 b4 b5 n i D vl vf va w0 w) (v : Value) : Core B C T b0 b1 b2 b3 b4 b5 n i D (upV vl i v) vf va w0 (w.setCell ⟨b2, i, none⟩ v) := by
  have := h.set (.inl rfl) v
  rw [if_pos rfl, if_neg h.ne2.2.2.1, if_neg h.ne2.2.2.2.1] at this
  exact this

theorem Core.setF (h : Core B C T b0 b1 b2 b3 b4 b5 n i D vl vf va w0 w) (v : Value) : Core B C T b0 b1 b2 b3 b4 b5 n i D vl (upV vf i v) va w0 (w.setCell ⟨b3, i, none⟩ v) := by
  have := h.set (.inr (.inl rfl)) v
  rw [if_neg (Ne.symm h.ne2.2.2.1), if_pos rfl, if_neg h.ne3.2.2.1] at this
  exact this

theorem Core.setA (h : Core B C T b0 b1 b2 b3 b4 b5 n i D vl vf va w0 w) (v : Value) : Core B C T b0 b1 b2 b3 b4 b5 n i D vl vf (upV va i v) w0 (w.setCell ⟨b4, i, none⟩ v) := by
  have := h.set (.inr (.inr rfl)) v
  rw [if_neg (Ne.symm h.ne2.2.2.2.1), if_neg (Ne.symm h.ne3.2.2.1), if_pos rfl] at this
  exact this

/-- A row of integers of the round's own, nil where it is empty. -/
structure IRow (T : Nat) (v : Value) (zs : List Int) (w : World) : Prop where
  own : w.ownsRow T 3 1 v zs.length (ints zs)
  nil : zs = [] → v = .slice none 0 0

theorem IRow.lt {v : Value} (h : IRow T v zl w) {g : Nat} (hg : v.ownBlock = some g) : T ≤ g ∧ g < w.heap.size := h.own.lt g hg

theorem IRow.keep {v : Value} (h : IRow T v zl w) (hk : ∀ g, v.ownBlock = some g → w'.heap[g]? = w.heap[g]?) : IRow T v zl w' := by
  refine ⟨⟨h.own.1, ?_⟩, h.nil⟩
  rcases h.own.2 with h0 | ⟨g, cap, cur, rfl, h1, h2, h3⟩
  · exact .inl h0
  · exact .inr ⟨g, cap, cur, rfl, h1, (hk g rfl).trans h2, h3⟩

/-- As the law reads it. -/
theorem IRow.ints {v : Value} (h : IRow T v zl w) (hC : C ≤ T) (hT : zl.length ≤ maxLen) : IntsIn w C w.heap.size v zl := by
  by_cases e : zl = []
  · exact .inl ⟨h.nil e, e⟩
  · rcases h.own.2 with ⟨-, h0⟩ | ⟨g, cap, cur, rfl, h1, h2, h3⟩
    · exact absurd (List.eq_nil_of_length_eq_zero h0) e
    · refine .inr ⟨e, hT, g, cap, Nat.le_trans hC h1, (Array.getElem?_eq_some_iff.1 h2).1, rfl, fun k hk => ?_⟩
      rw [h.own.cellAt k (by omega)]
      simp [Qxb6601491a.ints, hk]

/-- WHAT STANDS WITHIN A ROUND: the row of lists and the row of forwards in hand. -/
structure Mid (B C T b0 b1 b2 b3 b4 b5 n i : Nat) (D : Nat → NodeD) (vl vf va : Nat → Value) (zl zf : List Int) (w0 w : World) : Prop where
  core : Core B C T b0 b1 b2 b3 b4 b5 n i D vl vf va w0 w
  rl : IRow T (vl i) zl w
  rf : IRow T (vf i) zf w
  sep : ∀ g, (vl i).ownBlock = some g → (vf i).ownBlock ≠ some g

/-- All that was there is as it was. -/
theorem Mid.later (h : Mid B C T b0 b1 b2 b3 b4 b5 n i D vl vf va zl zf w0 w) (hb : Below w.heap.size w w') : Mid B C T b0 b1 b2 b3 b4 b5 n i D vl vf va zl zf w0 w' :=
  ⟨h.core.keep (hb.mono h.core.size), h.rl.keep fun g hg => hb.block g (h.rl.lt hg).2, h.rf.keep fun g hg => hb.block g (h.rf.lt hg).2, h.sep⟩

theorem grown_below (hT : T ≤ w.heap.size) {o : Obj} {v : Value} (hv : ∀ g, v.ownBlock = some g → T ≤ g) (hg : (w.alloc o).grownBy w2 v.ownBlock) : Below T w w2 :=
  ((Below.refl _ _).alloc hT _).grown hg (by simp; omega) hv

theorem setCell_below (hb : Below T w w') {b : Nat} {k : Nat} (hk : k ≠ b) {j : Nat} {u : Value} (hkT : k < T) : (w'.setCell ⟨b, j, none⟩ u).heap[k]? = w.heap[k]? :=
  (Below.heap_setCell _ _ _ _ hk).trans (hb.block k hkT)

/-- An append to the row of lists, and the store. -/
theorem Mid.appL {o : Obj} {v' : Value} {j : Int} (h : Mid B C T b0 b1 b2 b3 b4 b5 n i D vl vf va zl zf w0 w) (hg : (w.alloc o).grownBy w2 (vl i).ownBlock)
    (ho : w2.ownsRow T 3 1 v' (zl.length + 1) (ints zl ++ [.int .i64 j])) (hat : v'.ownBlock = (vl i).ownBlock ∨ v'.ownBlock = some (w.heap.size + 1)) :
    Mid B C T b0 b1 b2 b3 b4 b5 n i D (upV vl i v') vf va (zl ++ [j]) zf w0 (w2.setCell ⟨b2, i, none⟩ v') := by
  have hb2 : b2 < T := Nat.lt_of_lt_of_le h.core.lt.2.2.1 h.core.ct
  have hbel := grown_below h.core.size (fun g hg => (h.rl.lt hg).1) hg
  have e : ints (zl ++ [j]) = ints zl ++ [.int .i64 j] := by simp [ints]
  have hne : ∀ {v : Value} {zs : List Int} {x : World}, IRow T v zs x → ∀ g, v.ownBlock = some g → g ≠ b2 := fun hr g hg => by have := (hr.lt hg).1; omega
  have hrl : IRow T v' (zl ++ [j]) w2 := ⟨by rw [e]; simpa using ho, fun h0 => by simp at h0⟩
  have hrf : IRow T (vf i) zf w2 := h.rf.keep fun g hg' => by
    have hlt := (h.rf.lt hg').2
    rw [hg.block g (by simp; omega) (fun e => h.sep g e.symm hg')]
    exact Below.heap_alloc w o g hlt
  refine ⟨(h.core.keep hbel).setL v', ?_, hrf.keep fun g hg' => Below.heap_setCell _ _ _ _ (hne hrf g hg'), ?_⟩
  · rw [upV_at]; exact hrl.keep fun g hg' => Below.heap_setCell _ _ _ _ (hne hrl g hg')
  · rw [upV_at]
    intro g hg' hf
    rcases hat with h1 | h1
    · rw [h1] at hg'; exact h.sep g hg' hf
    · rw [h1] at hg'; cases hg'; have := (h.rf.lt hf).2; omega

/-- An append to the row of forwards, and the store. -/
theorem Mid.appF {o : Obj} {v' : Value} {j : Int} (h : Mid B C T b0 b1 b2 b3 b4 b5 n i D vl vf va zl zf w0 w) (hg : (w.alloc o).grownBy w2 (vf i).ownBlock)
    (ho : w2.ownsRow T 3 1 v' (zf.length + 1) (ints zf ++ [.int .i64 j])) (hat : v'.ownBlock = (vf i).ownBlock ∨ v'.ownBlock = some (w.heap.size + 1)) :
    Mid B C T b0 b1 b2 b3 b4 b5 n i D vl (upV vf i v') va zl (zf ++ [j]) w0 (w2.setCell ⟨b3, i, none⟩ v') := by
  have hb3 : b3 < T := Nat.lt_of_lt_of_le h.core.lt.2.2.2.1 h.core.ct
  have hbel := grown_below h.core.size (fun g hg => (h.rf.lt hg).1) hg
  have e : ints (zf ++ [j]) = ints zf ++ [.int .i64 j] := by simp [ints]
  have hne : ∀ {v : Value} {zs : List Int} {x : World}, IRow T v zs x → ∀ g, v.ownBlock = some g → g ≠ b3 := fun hr g hg => by have := (hr.lt hg).1; omega
  have hrf : IRow T v' (zf ++ [j]) w2 := ⟨by rw [e]; simpa using ho, fun h0 => by simp at h0⟩
  have hrl : IRow T (vl i) zl w2 := h.rl.keep fun g hg' => by
    have hlt := (h.rl.lt hg').2
    rw [hg.block g (by simp; omega) (fun e => h.sep g hg' e.symm)]
    exact Below.heap_alloc w o g hlt
  refine ⟨(h.core.keep hbel).setF v', hrl.keep fun g hg' => Below.heap_setCell _ _ _ _ (hne hrl g hg'), ?_, ?_⟩
  · rw [upV_at]; exact hrf.keep fun g hg' => Below.heap_setCell _ _ _ _ (hne hrf g hg')
  · rw [upV_at]
    intro g hg' hf
    rcases hat with h1 | h1
    · rw [h1] at hf; exact h.sep g hg' hf
    · rw [h1] at hf; cases hf; have := (h.rl.lt hg').2; omega

/-- A change of the row of lists in place. -/
theorem Mid.inL {zs : List Int} (h : Mid B C T b0 b1 b2 b3 b4 b5 n i D vl vf va zl zf w0 w) (hg : w.grownBy w2 (vl i).ownBlock) (ho : w2.ownsRow T 3 1 (vl i) zs.length (ints zs)) (hz : zs = [] → zl = []) :
    Mid B C T b0 b1 b2 b3 b4 b5 n i D vl vf va zs zf w0 w2 := by
  refine ⟨h.core.keep ((Below.refl _ _).grown hg h.core.size fun g hg => (h.rl.lt hg).1), ⟨ho, fun e => h.rl.nil (hz e)⟩, h.rf.keep fun g hg' => hg.block g (h.rf.lt hg').2 (fun e => h.sep g e.symm hg'), h.sep⟩

theorem Mid.inF {zs : List Int} (h : Mid B C T b0 b1 b2 b3 b4 b5 n i D vl vf va zl zf w0 w) (hg : w.grownBy w2 (vf i).ownBlock) (ho : w2.ownsRow T 3 1 (vf i) zs.length (ints zs)) (hz : zs = [] → zf = []) :
    Mid B C T b0 b1 b2 b3 b4 b5 n i D vl vf va zl zs w0 w2 := by
  refine ⟨h.core.keep ((Below.refl _ _).grown hg h.core.size fun g hg => (h.rf.lt hg).1), h.rl.keep fun g hg' => hg.block g (h.rl.lt hg').2 (fun e => h.sep g hg' e.symm), ⟨ho, fun e => h.rf.nil (hz e)⟩, h.sep⟩

/-- A change in place that hands back another value of the same block, stored. -/
theorem Mid.putL {zs : List Int} {v' : Value} (h : Mid B C T b0 b1 b2 b3 b4 b5 n i D vl vf va zl zf w0 w) (hg : w.grownBy w2 (vl i).ownBlock) (ho : w2.ownsRow T 3 1 v' zs.length (ints zs)) (hz : zs = [] → v' = .slice none 0 0) (hat : v'.ownBlock = (vl i).ownBlock) :
    Mid B C T b0 b1 b2 b3 b4 b5 n i D (upV vl i v') vf va zs zf w0 (w2.setCell ⟨b2, i, none⟩ v') := by
  have hb2 : b2 < T := Nat.lt_of_lt_of_le h.core.lt.2.2.1 h.core.ct
  have hne : ∀ {g : Nat}, T ≤ g → g ≠ b2 := fun h => by omega
  have hrl : IRow T v' zs w2 := ⟨ho, hz⟩
  have hrf : IRow T (vf i) zf w2 := h.rf.keep fun g hg' => hg.block g (h.rf.lt hg').2 (fun e => h.sep g e.symm hg')
  refine ⟨(h.core.keep ((Below.refl _ _).grown hg h.core.size fun g hg => (h.rl.lt hg).1)).setL v', ?_, hrf.keep fun g hg' => Below.heap_setCell _ _ _ _ (hne (hrf.lt hg').1), ?_⟩
  · rw [upV_at]; exact hrl.keep fun g hg' => Below.heap_setCell _ _ _ _ (hne (hrl.lt hg').1)
  · rw [upV_at]; intro g hg'; rw [hat] at hg'; exact h.sep g hg'

theorem Mid.putF {zs : List Int} {v' : Value} (h : Mid B C T b0 b1 b2 b3 b4 b5 n i D vl vf va zl zf w0 w) (hg : w.grownBy w2 (vf i).ownBlock) (ho : w2.ownsRow T 3 1 v' zs.length (ints zs)) (hz : zs = [] → v' = .slice none 0 0) (hat : v'.ownBlock = (vf i).ownBlock) :
    Mid B C T b0 b1 b2 b3 b4 b5 n i D vl (upV vf i v') va zl zs w0 (w2.setCell ⟨b3, i, none⟩ v') := by
  have hb3 : b3 < T := Nat.lt_of_lt_of_le h.core.lt.2.2.2.1 h.core.ct
  have hne : ∀ {g : Nat}, T ≤ g → g ≠ b3 := fun h => by omega
  have hrf : IRow T v' zs w2 := ⟨ho, hz⟩
  have hrl : IRow T (vl i) zl w2 := h.rl.keep fun g hg' => hg.block g (h.rl.lt hg').2 (fun e => h.sep g hg' e.symm)
  refine ⟨(h.core.keep ((Below.refl _ _).grown hg h.core.size fun g hg => (h.rf.lt hg).1)).setF v', hrl.keep fun g hg' => Below.heap_setCell _ _ _ _ (hne (hrl.lt hg').1), ?_, ?_⟩
  · rw [upV_at]; exact hrf.keep fun g hg' => Below.heap_setCell _ _ _ _ (hne (hrf.lt hg').1)
  · rw [upV_at]; intro g hg' hf; rw [hat] at hf; exact h.sep g hg' hf
end
end Go.Proofs.Qxb6601491a
