/-
  newGraph's FIRST STATEMENT: four slices, a map and a box, made in whatever order.
-/
import Derived.Test.Qxb6601491aNgI
import Derived.Test.Qxb6601491aMak
namespace Go.Proofs.Qxb6601491a
open Go.RowKit
open Go.Extern.Stop (cell)

/-- The operations that are taken first. -/
def pur (j : Nat) : Bool := [0, 1, 3, 4, 6, 7, 9, 10, 12, 13].contains j

theorem Try.info34 : (Try.prog.info? 34).map (fun i => (i.zero, i.size, i.bytes)) = some (some (.agg (Array.replicate 20 (.int .u8 0))), 20, 20) := by kernel_rfl
theorem Try.info41 : (Try.prog.info? 41).map (fun i => (i.zero, i.size, i.bytes)) = some (some (.slice none 0 0), 1, 24) := by kernel_rfl
theorem Try.info25 : (Try.prog.info? 25).map (fun i => (i.zero, i.size, i.bytes)) = some (some (.slice none 0 0), 1, 24) := by kernel_rfl

/-- What the makers lay. -/
def obA (n : Nat) : Obj := .cells (madeCells (Array.replicate 20 (.int .u8 0)) (n * 20)) 34
def obL (n : Nat) (t : TypeId) : Obj := .cells (madeCells #[.slice none 0 0] (n * 1)) t
def obM : Obj := .map #[] 0
def obG : Obj := .cells #[.slice none 0 0, .map none, .slice none 0 0, .slice none 0 0, .slice none 0 0] 70
def slV (n b : Nat) : Value := .slice (some ⟨b, 0, none⟩) n n
def mpV (b : Nat) : Value := .map (some b)
def ptV (b : Nat) : Value := .pointer (some ⟨b, 0, none⟩)

def mkrs (n : Nat) : List Maker := [⟨2, 16, slV n, obA n⟩, ⟨5, 19, mpV, obM⟩, ⟨8, 22, slV n, obL n 41⟩, ⟨11, 25, slV n, obL n 41⟩, ⟨14, 28, slV n, obL n 25⟩, ⟨16, 3, ptV, obG⟩]

theorem mkrs_distinct (n : Nat) : Distinct (mkrs n) := by
  simp [Distinct, mkrs]

theorem make_at {t e : TypeId} {i : TypeInfo} {z : Value} (ht : Try.prog.underlying t = some (.slice e)) (hi : Try.prog.info? e = some i) (hz : i.zero = some z) (n : Nat) (hn : n ≤ 4096) (hb : i.bytes ≤ 24) (w : World) :
    (Instr.makeSlice t (.int .i64 n) (.int .i64 n)).run Try.prog w = .ok (slV n w.heap.size) (w.alloc (.cells (madeCells z.cells (n * i.size)) e)) := by
  have h1 : (i.bytes : Int) * (n : Int) ≤ 281474976710656 := by
    have : i.bytes * n ≤ 24 * 4096 := Nat.mul_le_mul hb hn
    have h : ((i.bytes * n : Nat) : Int) ≤ 281474976710656 := by omega
    rwa [Int.natCast_mul] at h
  have h := run_make (P := Try.prog) w t e i z ht hi hz .i64 .i64 n n (by omega) (Int.le_refl _) h1 (by omega)
  simpa [slV] using h

/-- An operation of the region that makes a block. -/
def mkOK (ops : Array Oper) (i d : Nat) (op : Op) : Prop :=
  ∃ o, ops[i]? = some o ∧ o.guard = none ∧ o.dst = some d ∧ o.op = op ∧ (o.after.all fun e => !Region.binds .any e || (decide (e.on < 18) && pur e.on)) = true

theorem mk_after {o : Oper} (h : (o.after.all fun e => !Region.binds .any e || (decide (e.on < 18) && pur e.on)) = true) : ∀ e ∈ o.after, Region.binds .any e = true → e.on < 18 ∧ pur e.on = true := by
  intro e he hb
  have := Array.all_eq_true_iff_forall_mem.1 h e he
  simpa [hb] using this

/-- The region. -/
structure Reg1 (ops : Array Oper) : Prop where
  size : ops.size = 18
  m2 : mkOK ops 2 16 (.makeSlice 25 (.tmp 15) (.tmp 15))
  m5 : mkOK ops 5 19 (.makeMap 26 (some (.tmp 18)))
  m8 : mkOK ops 8 22 (.makeSlice 27 (.tmp 21) (.tmp 21))
  m11 : mkOK ops 11 25 (.makeSlice 27 (.tmp 24) (.tmp 24))
  m14 : mkOK ops 14 28 (.makeSlice 28 (.tmp 27) (.tmp 27))
  m16 : mkOK ops 16 3 (.alloc 70)
  o15 : ∃ o, ops[15]? = some o ∧ o.guard = none ∧ o.dst = some 29 ∧ o.op = .build 70 #[(0, .tmp 16), (1, .tmp 19), (2, .tmp 22), (3, .tmp 25), (4, .tmp 28)] ∧
    (o.after.all fun e => !Region.binds .any e || [2, 5, 8, 11, 14].contains e.on) = true ∧ ([2, 5, 8, 11, 14].all fun k => o.after.any fun e => Region.binds .any e && e.on == k) = true
  o17 : ∃ o, ops[17]? = some o ∧ o.guard = none ∧ o.dst = none ∧ o.op = .store 70 (.tmp 3) (.tmp 29) ∧ (o.after.any fun e => Region.binds .any e && e.on == 15) = true
  r16 : Region.ready .any ops #[true, true, true, true, true, true, true, true, true, true, true, true, true, true, true, true, false, false] = [16]
  r17 : Region.ready .any ops #[true, true, true, true, true, true, true, true, true, true, true, true, true, true, true, true, true, false] = [17]
  r18 : Region.ready .any ops #[true, true, true, true, true, true, true, true, true, true, true, true, true, true, true, true, true, true] = []

/-- The frame when all six have come up. -/
def act6 (n b0 b1 b2 b3 b4 b5 : Nat) (A : Act) : Act := (((((A.put (some 16) (slV n b0)).put (some 19) (mpV b1)).put (some 22) (slV n b2)).put (some 25) (slV n b3)).put (some 28) (slV n b4)).put (some 3) (ptV b5)
/-- The graph's value. -/
def grV (n b0 b1 b2 b3 b4 : Nat) : List Value := [slV n b0, mpV b1, slV n b2, slV n b3, slV n b4]

/-- What the statement leaves. -/
structure GraphNew (n B b0 b1 b2 b3 b4 b5 : Nat) (w w' : World) : Prop where
  below : Below B w w'
  le : B ≤ b0 ∧ B ≤ b1 ∧ B ≤ b2 ∧ B ≤ b3 ∧ B ≤ b4 ∧ B ≤ b5
  h0 : w'.heap[b0]? = some (obA n)
  h1 : w'.heap[b1]? = some obM
  h2 : w'.heap[b2]? = some (obL n 41)
  h3 : w'.heap[b3]? = some (obL n 41)
  h4 : w'.heap[b4]? = some (obL n 25)
  h5 : w'.heap[b5]? = some (.cells (grV n b0 b1 b2 b3 b4).toArray 70 (0, 0))
  ne : b2 ≠ b3

theorem act6_evals {n b0 b1 b2 b3 b4 b5 : Nat} {A : Act} (hsz : A.tmps.size = 162) :
    (act6 n b0 b1 b2 b3 b4 b5 A).eval (.tmp 16) = slV n b0 ∧ (act6 n b0 b1 b2 b3 b4 b5 A).eval (.tmp 19) = mpV b1 ∧ (act6 n b0 b1 b2 b3 b4 b5 A).eval (.tmp 22) = slV n b2 ∧ (act6 n b0 b1 b2 b3 b4 b5 A).eval (.tmp 25) = slV n b3 ∧
    (act6 n b0 b1 b2 b3 b4 b5 A).eval (.tmp 28) = slV n b4 ∧ (act6 n b0 b1 b2 b3 b4 b5 A).eval (.tmp 3) = ptV b5 := by
  unfold act6
  refine ⟨?_, ?_, ?_, ?_, ?_, ?_⟩ <;> simp [Act.eval, Act.put, hsz]

theorem Try.size70 : (Try.prog.info? 70).map (·.size) = some 5 := by kernel_rfl

/-- The end of the region: the store. -/
theorem reg1_store {ops : Array Oper} {Q : Exit → Act → World → Prop} {A : Act} {w0 w : World} {n B b0 b1 b2 b3 b4 b5 : Nat} {L : Nat → Option Nat} (R : Reg1 ops) (hsz : A.tmps.size = 162)
    (hw : MW (mkrs n) B L w0 w) (l0 : L 2 = some b0) (l1 : L 5 = some b1) (l2 : L 8 = some b2) (l3 : L 11 = some b3) (l4 : L 14 = some b4) (l5 : L 16 = some b5)
    (hQ : ∀ w', GraphNew n B b0 b1 b2 b3 b4 b5 w0 w' → Q .normal ((act6 n b0 b1 b2 b3 b4 b5 A).put (some 29) (aggV (grV n b0 b1 b2 b3 b4))) w') :
    wpAny Try.prog .any ops Q 1 #[true, true, true, true, true, true, true, true, true, true, true, true, true, true, true, true, true, false] ((act6 n b0 b1 b2 b3 b4 b5 A).put (some 29) (aggV (grV n b0 b1 b2 b3 b4))) w := by
  obtain ⟨c0, d0⟩ := hw.blk ⟨2, 16, slV n, obA n⟩ (by simp [mkrs]) b0 l0
  obtain ⟨c1, d1⟩ := hw.blk ⟨5, 19, mpV, obM⟩ (by simp [mkrs]) b1 l1
  obtain ⟨c2, d2⟩ := hw.blk ⟨8, 22, slV n, obL n 41⟩ (by simp [mkrs]) b2 l2
  obtain ⟨c3, d3⟩ := hw.blk ⟨11, 25, slV n, obL n 41⟩ (by simp [mkrs]) b3 l3
  obtain ⟨c4, d4⟩ := hw.blk ⟨14, 28, slV n, obL n 25⟩ (by simp [mkrs]) b4 l4
  obtain ⟨c5, d5⟩ := hw.blk ⟨16, 3, ptV, obG⟩ (by simp [mkrs]) b5 l5
  have n0 : b0 ≠ b5 := fun e => absurd (hw.inj ⟨2, 16, slV n, obA n⟩ (by simp [mkrs]) ⟨16, 3, ptV, obG⟩ (by simp [mkrs]) b0 l0 (e ▸ l5)) (by simp)
  have n1 : b1 ≠ b5 := fun e => absurd (hw.inj ⟨5, 19, mpV, obM⟩ (by simp [mkrs]) ⟨16, 3, ptV, obG⟩ (by simp [mkrs]) b1 l1 (e ▸ l5)) (by simp)
  have n2 : b2 ≠ b5 := fun e => absurd (hw.inj ⟨8, 22, slV n, obL n 41⟩ (by simp [mkrs]) ⟨16, 3, ptV, obG⟩ (by simp [mkrs]) b2 l2 (e ▸ l5)) (by simp)
  have n3 : b3 ≠ b5 := fun e => absurd (hw.inj ⟨11, 25, slV n, obL n 41⟩ (by simp [mkrs]) ⟨16, 3, ptV, obG⟩ (by simp [mkrs]) b3 l3 (e ▸ l5)) (by simp)
  have n4 : b4 ≠ b5 := fun e => absurd (hw.inj ⟨14, 28, slV n, obL n 25⟩ (by simp [mkrs]) ⟨16, 3, ptV, obG⟩ (by simp [mkrs]) b4 l4 (e ▸ l5)) (by simp)
  have n23 : b2 ≠ b3 := fun e => by
    subst e
    have := hw.inj ⟨8, 22, slV n, obL n 41⟩ (by simp [mkrs]) ⟨11, 25, slV n, obL n 41⟩ (by simp [mkrs]) b2 l2 l3
    cases this
  have hthere : w.there b5 0 (grV n b0 b1 b2 b3 b4).length := fun j hj => by
    have hj5 : j < 5 := hj
    constructor
    · simp [World.cell?, d5, obG, hj5]
    · simp [World.frozen?, d5, obG]
  have hst := stV_of (w := w) (b := b5) (o := 0) (ty := 70) (cs := grV n b0 b1 b2 b3 b4) (by rw [Try.size70]; rfl) hthere (by intro v hv; simp [grV] at hv; rcases hv with rfl | rfl | rfl | rfl | rfl <;> rfl)
  have hset : (w.setCells b5 0 (grV n b0 b1 b2 b3 b4)).heap[b5]? = some (.cells (grV n b0 b1 b2 b3 b4).toArray 70 (0, 0)) := by
    simp only [grV, World.setCells]
    have e0 := heap_setCell_same w b5 0 _ 70 (slV n b0) d5
    have e1 := heap_setCell_same _ b5 1 _ 70 (mpV b1) e0
    have e2 := heap_setCell_same _ b5 2 _ 70 (slV n b2) e1
    have e3 := heap_setCell_same _ b5 3 _ 70 (slV n b3) e2
    have e4 := heap_setCell_same _ b5 4 _ 70 (slV n b4) e3
    simpa using e4
  have hG : GraphNew n B b0 b1 b2 b3 b4 b5 w0 (w.setCells b5 0 (grV n b0 b1 b2 b3 b4)) :=
    ⟨Below.setCells c5 _ _ _ hw.below, ⟨c0, c1, c2, c3, c4, c5⟩, (heap_setCells_ne n0 _ _ _).trans d0, (heap_setCells_ne n1 _ _ _).trans d1, (heap_setCells_ne n2 _ _ _).trans d2, (heap_setCells_ne n3 _ _ _).trans d3, (heap_setCells_ne n4 _ _ _).trans d4, hset, n23⟩
  obtain ⟨-, -, -, -, -, ev3⟩ := act6_evals (n := n) (b0 := b0) (b1 := b1) (b2 := b2) (b3 := b3) (b4 := b4) (b5 := b5) hsz
  have evs : ((act6 n b0 b1 b2 b3 b4 b5 A).put (some 29) (aggV (grV n b0 b1 b2 b3 b4))).eval (.tmp 3) = ptV b5 := by
    rw [← ev3]; simp [Act.eval, Act.put]
  have evg : ((act6 n b0 b1 b2 b3 b4 b5 A).put (some 29) (aggV (grV n b0 b1 b2 b3 b4))).eval (.tmp 29) = aggV (grV n b0 b1 b2 b3 b4) := by
    simp [Act.eval, Act.put, act6, hsz]
  obtain ⟨o, ho, hg, hdst, hop, -⟩ := R.o17
  refine ⟨fun h => ?_, fun i hi => ?_⟩
  · rw [R.r17] at h; cases h
  · rw [R.r17] at hi
    simp only [List.mem_singleton] at hi
    subst hi
    unfold wpOp
    simp only [ho]
    rw [if_pos (by simp [Region.wanted, hg])]
    refine .inl ?_
    unfold Oper.wp execOp
    simp only [hop, evs, evg, ptV, Instr.storeAt, Instr.sureAddr, Sem.run_bind, Sem.run_pure, Result.andThen_ok]
    rw [show (storeVar 70 ⟨b5, 0, none⟩ (aggV (grV n b0 b1 b2 b3 b4))).run Try.prog w = .ok () (w.setCells b5 0 (grV n b0 b1 b2 b3 b4)) from hst]
    simp only [Result.andThen_ok, Oper.upon, hdst]
    have key : ∀ l' : Array Bool, l' = #[true, true, true, true, true, true, true, true, true, true, true, true, true, true, true, true, true, true] → wpAny Try.prog .any ops Q 0 l' ((act6 n b0 b1 b2 b3 b4 b5 A).put (some 29) (aggV (grV n b0 b1 b2 b3 b4))) (w.setCells b5 0 (grV n b0 b1 b2 b3 b4)) := fun l' e => by
      subst e; exact ⟨R.r18, hQ _ hG⟩
    have hput : ∀ x : Act, x.put none undef = x := fun _ => rfl
    rw [hput]
    exact key _ (by rfl)
end Go.Proofs.Qxb6601491a
