/-
  newGraph's FIRST STATEMENT: the law of the region.
-/
import Derived.Test.Qxb6601491aMakG
namespace Go.Proofs.Qxb6601491a
open Go.RowKit
open Go.Extern.Stop (cell)

theorem exec_make {a : Act} {o : Oper} {t : TypeId} {l c : Operand} {w w' : World} {v : Value} (hop : o.op = .makeSlice t l c) (h : (Instr.makeSlice t (a.eval l) (a.eval c)).run Try.prog w = .ok v w') : (execOp a.eval o).run Try.prog w = .ok (.value v) w' := by
  simp [execOp, hop, h]

theorem exec_map {a : Act} {o : Oper} {x : Operand} {w : World} {n : Nat} (hop : o.op = .makeMap 26 (some x)) (h : a.eval x = .int .i64 n) : (execOp a.eval o).run Try.prog w = .ok (.value (mpV w.heap.size)) (w.alloc obM) := by
  simp [execOp, hop, h, Instr.makeMap, run_underlying Try.underlying26, asInt, asIntOf, mpV, obM]

theorem Try.zero70 (w : World) : (zeroValue 70).run Try.prog w = .ok (.agg #[.slice none 0 0, .map none, .slice none 0 0, .slice none 0 0, .slice none 0 0]) w := by kernel_rfl

theorem exec_box {a : Act} {o : Oper} {w : World} (hop : o.op = .alloc 70) : (execOp a.eval o).run Try.prog w = .ok (.value (ptV w.heap.size)) (w.alloc obG) := by
  simp [execOp, hop, Instr.alloc, newVar, newRow, ptV, obG, Value.cells]

theorem built70 (n b0 b1 b2 b3 b4 : Nat) : Try.prog.built 70 [(0, slV n b0), (1, mpV b1), (2, slV n b2), (3, slV n b3), (4, slV n b4)] = some (grV n b0 b1 b2 b3 b4).toArray := by kernel_rfl

theorem lst_list {N : Nat} {pure : Nat → Bool} {listed : Array Bool} {L : Nat → Option Nat} (h : Lst N pure listed L) : listed = ((List.range N).map fun j => pure j || (L j).isSome).toArray := by
  apply Array.ext_getElem?
  intro j
  by_cases hj : j < N
  · rw [h.2 j hj]; simp [hj]
  · rw [Array.getElem?_eq_none (by rw [h.1]; omega), Array.getElem?_eq_none (by simp; omega)]

theorem any_mem {α : Type} {p : α → Bool} {xs : Array α} (h : xs.any p = true) : ∃ e ∈ xs, p e = true := by
  rw [← Array.any_toList, List.any_eq_true] at h
  obtain ⟨e, he, hp⟩ := h
  exact ⟨e, Array.mem_toList_iff.1 he, hp⟩

theorem putM_all {n b0 b1 b2 b3 b4 b5 : Nat} {L : Nat → Option Nat} {A : Act} (l0 : L 2 = some b0) (l1 : L 5 = some b1) (l2 : L 8 = some b2) (l3 : L 11 = some b3) (l4 : L 14 = some b4) (l5 : L 16 = some b5) : putM (mkrs n) L A = act6 n b0 b1 b2 b3 b4 b5 A := by
  simp [putM, mkrs, l0, l1, l2, l3, l4, l5, act6]

theorem putM_evals {n b0 b1 b2 b3 b4 : Nat} {L : Nat → Option Nat} {A : Act} (hsz : A.tmps.size = 162) (l0 : L 2 = some b0) (l1 : L 5 = some b1) (l2 : L 8 = some b2) (l3 : L 11 = some b3) (l4 : L 14 = some b4) :
    (putM (mkrs n) L A).eval (.tmp 16) = slV n b0 ∧ (putM (mkrs n) L A).eval (.tmp 19) = mpV b1 ∧ (putM (mkrs n) L A).eval (.tmp 22) = slV n b2 ∧ (putM (mkrs n) L A).eval (.tmp 25) = slV n b3 ∧ (putM (mkrs n) L A).eval (.tmp 28) = slV n b4 := by
  cases l5 : L 16 with
  | none => simp [putM, mkrs, l0, l1, l2, l3, l4, l5, Act.eval, Act.put, hsz]
  | some b5 =>
    obtain ⟨h1, h2, h3, h4, h5, -⟩ := act6_evals (n := n) (b0 := b0) (b1 := b1) (b2 := b2) (b3 := b3) (b4 := b4) (b5 := b5) hsz
    rw [putM_all l0 l1 l2 l3 l4 l5]
    exact ⟨h1, h2, h3, h4, h5⟩

set_option maxHeartbeats 1000000 in
theorem reg1_law {ops : Array Oper} {Q : Exit → Act → World → Prop} {A : Act} {w : World} {n : Nat} (R : Reg1 ops) (hn : n ≤ 4096) (hsz : A.tmps.size = 162)
    (e15 : A.eval (.tmp 15) = .int .i64 n) (e18 : A.eval (.tmp 18) = .int .i64 n) (e21 : A.eval (.tmp 21) = .int .i64 n) (e24 : A.eval (.tmp 24) = .int .i64 n) (e27 : A.eval (.tmp 27) = .int .i64 n)
    (hQ : ∀ b0 b1 b2 b3 b4 b5 w', GraphNew n w.heap.size b0 b1 b2 b3 b4 b5 w w' → Q .normal ((act6 n b0 b1 b2 b3 b4 b5 A).put (some 29) (aggV (grV n b0 b1 b2 b3 b4))) w') :
    wpAny Try.prog .any ops Q 8 #[true, true, false, true, true, false, true, true, false, true, true, false, true, true, false, false, false, false] A w := by
  obtain ⟨i0, hi, hz0, hz1, hz2⟩ := info_parts Try.info34
  obtain ⟨i1, hj, hy0, hy1, hy2⟩ := info_parts Try.info41
  obtain ⟨i2, hk, hx0, hx1, hx2⟩ := info_parts Try.info25
  have ev : ∀ (L : Nat → Option Nat) (t : Nat), (∀ m ∈ mkrs n, m.dst ≠ t) → (putM (mkrs n) L A).eval (.tmp t) = A.eval (.tmp t) := fun L t h => putM_eval L t _ _ h
  refine wpAny_makers (N := 18) (pure := pur) (ms := mkrs n) (a0 := A) (B := w.heap.size) (s := 15) (t := 17) (w0 := w) (mkrs_distinct n) ?hmk R.size ?hall ?hs ?ht ?h15 6 (fun _ => none) w _ rfl (fun _ _ => rfl) ?hl ?hw
  case hmk =>
    intro m hm
    simp only [mkrs, List.mem_cons, List.not_mem_nil, or_false] at hm
    rcases hm with rfl | rfl | rfl | rfl | rfl | rfl
    · obtain ⟨o, h1, h2, h3, h4, h5⟩ := R.m2
      refine ⟨rfl, by simp, o, h1, h2, h3, mk_after h5, fun L w' _ => exec_make h4 ?_⟩
      rw [ev L 15 (by simp [mkrs]), e15]
      have := make_at Try.underlying25 hi hz0 n hn (by rw [hz2]; decide) w'
      rw [hz1] at this; exact this
    · obtain ⟨o, h1, h2, h3, h4, h5⟩ := R.m5
      exact ⟨rfl, by simp, o, h1, h2, h3, mk_after h5, fun L w' _ => exec_map h4 ((ev L 18 (by simp [mkrs])).trans e18)⟩
    · obtain ⟨o, h1, h2, h3, h4, h5⟩ := R.m8
      refine ⟨rfl, by simp, o, h1, h2, h3, mk_after h5, fun L w' _ => exec_make h4 ?_⟩
      rw [ev L 21 (by simp [mkrs]), e21]
      have := make_at Try.underlying27 hj hy0 n hn (by rw [hy2]; decide) w'
      rw [hy1] at this; exact this
    · obtain ⟨o, h1, h2, h3, h4, h5⟩ := R.m11
      refine ⟨rfl, by simp, o, h1, h2, h3, mk_after h5, fun L w' _ => exec_make h4 ?_⟩
      rw [ev L 24 (by simp [mkrs]), e24]
      have := make_at Try.underlying27 hj hy0 n hn (by rw [hy2]; decide) w'
      rw [hy1] at this; exact this
    · obtain ⟨o, h1, h2, h3, h4, h5⟩ := R.m14
      refine ⟨rfl, by simp, o, h1, h2, h3, mk_after h5, fun L w' _ => exec_make h4 ?_⟩
      rw [ev L 27 (by simp [mkrs]), e27]
      have := make_at Try.underlying28 hk hx0 n hn (by rw [hx2]; decide) w'
      rw [hx1] at this; exact this
    · obtain ⟨o, h1, h2, h3, h4, h5⟩ := R.m16
      exact ⟨rfl, by simp, o, h1, h2, h3, mk_after h5, fun L w' _ => exec_box h4⟩
  case hall =>
    intro j hj
    have hc : j = 0 ∨ j = 1 ∨ j = 2 ∨ j = 3 ∨ j = 4 ∨ j = 5 ∨ j = 6 ∨ j = 7 ∨ j = 8 ∨ j = 9 ∨ j = 10 ∨ j = 11 ∨ j = 12 ∨ j = 13 ∨ j = 14 ∨ j = 15 ∨ j = 16 ∨ j = 17 := by omega
    rcases hc with rfl | rfl | rfl | rfl | rfl | rfl | rfl | rfl | rfl | rfl | rfl | rfl | rfl | rfl | rfl | rfl | rfl | rfl <;> simp [pur, mkrs]
  case hs =>
    obtain ⟨o, h1, -, -, -, h5, -⟩ := R.o15
    refine ⟨by omega, rfl, by simp [mkrs], o, h1, fun e he hb => ?_⟩
    have := Array.all_eq_true_iff_forall_mem.1 h5 e he
    simp only [hb, Bool.not_true, Bool.false_or, List.contains_iff_mem, List.mem_cons, List.not_mem_nil, or_false] at this
    rcases this with h | h | h | h | h <;> rw [h] <;> simp [mkrs]
  case ht =>
    obtain ⟨o, h1, -, -, -, h5⟩ := R.o17
    obtain ⟨e, he, h6⟩ := any_mem h5
    simp only [Bool.and_eq_true, beq_iff_eq] at h6
    exact ⟨o, h1, e, he, h6.1, h6.2⟩
  case h15 =>
    intro L w1 listed hl hOn hw hready
    have hL15 : L 15 = none := hOn 15 (by simp [mkrs])
    have hL17 : L 17 = none := hOn 17 (by simp [mkrs])
    obtain ⟨o, h1, h2, h3, h4, -, h6⟩ := R.o15
    obtain ⟨-, o', ho', hall⟩ := mem_ready.1 hready
    rw [h1] at ho'
    cases ho'
    have some_of : ∀ k ∈ [2, 5, 8, 11, 14], ∃ b, L k = some b := fun k hk => by
      have h7 := List.all_eq_true.1 h6 k hk
      obtain ⟨e, he, h8⟩ := any_mem h7
      simp only [Bool.and_eq_true, beq_iff_eq] at h8
      have h9 := hall e he h8.1
      have hk18 : k < 18 := by
        simp only [List.mem_cons, List.not_mem_nil, or_false] at hk
        omega
      have hpk : pur k = false := by
        simp only [List.mem_cons, List.not_mem_nil, or_false] at hk
        rcases hk with rfl | rfl | rfl | rfl | rfl <;> rfl
      rw [h8.2, Array.getD_eq_getD_getElem?, hl.2 k hk18, hpk] at h9
      exact Option.isSome_iff_exists.1 (by simpa using h9)
    obtain ⟨b0, l0⟩ := some_of 2 (by simp)
    obtain ⟨b1, l1⟩ := some_of 5 (by simp)
    obtain ⟨b2, l2⟩ := some_of 8 (by simp)
    obtain ⟨b3, l3⟩ := some_of 11 (by simp)
    obtain ⟨b4, l4⟩ := some_of 14 (by simp)
    obtain ⟨v0, v1, v2, v3, v4⟩ := putM_evals (n := n) hsz l0 l1 l2 l3 l4
    have hlist := lst_list hl
    have hbd := run_build w1 70 #[(0, slV n b0), (1, mpV b1), (2, slV n b2), (3, slV n b3), (4, slV n b4)] _ (built70 n b0 b1 b2 b3 b4)
    unfold wpOp
    simp only [h1]
    rw [if_pos (by simp [Region.wanted, h2])]
    refine .inl ?_
    unfold Oper.wp execOp
    have hparts : (#[(0, Operand.tmp 16), (1, .tmp 19), (2, .tmp 22), (3, .tmp 25), (4, .tmp 28)].map fun x : Nat × Operand => (x.1, (putM (mkrs n) L A).eval x.2)) = #[(0, slV n b0), (1, mpV b1), (2, slV n b2), (3, slV n b3), (4, slV n b4)] := by
      simp [v0, v1, v2, v3, v4]
    simp only [h4, hparts, Sem.run_bind, hbd, Result.andThen_ok, Sem.run_pure, Oper.upon, h3]
    cases l5 : L 16 with
    | some b5 =>
      have hmis : missing (mkrs n) L = 0 := by simp [missing, mkrs, l0, l1, l2, l3, l4, l5]
      have key : ∀ l' : Array Bool, l' = #[true, true, true, true, true, true, true, true, true, true, true, true, true, true, true, true, true, false] → wpAny Try.prog .any ops Q 1 l' ((act6 n b0 b1 b2 b3 b4 b5 A).put (some 29) (aggV (grV n b0 b1 b2 b3 b4))) w1 := fun l' e => by
        subst e; exact reg1_store R hsz hw l0 l1 l2 l3 l4 l5 (hQ b0 b1 b2 b3 b4 b5)
      rw [hmis, putM_all l0 l1 l2 l3 l4 l5]
      refine key _ ?_
      rw [hlist]
      simp [List.range, List.range.loop, pur, hL15, hL17, l0, l1, l2, l3, l4, l5]
    | none =>
      have hmis : missing (mkrs n) L = 1 := by simp [missing, mkrs, l0, l1, l2, l3, l4, l5]
      have m16 : (⟨16, 3, ptV, obG⟩ : Maker) ∈ mkrs n := by simp [mkrs]
      obtain ⟨o6, g1, g2, g3, g4, -⟩ := R.m16
      have hw2 := hw.step (mkrs_distinct n) m16
      have l0' : updL L 16 w1.heap.size 2 = some b0 := l0
      have l1' : updL L 16 w1.heap.size 5 = some b1 := l1
      have l2' : updL L 16 w1.heap.size 8 = some b2 := l2
      have l3' : updL L 16 w1.heap.size 11 = some b3 := l3
      have l4' : updL L 16 w1.heap.size 14 = some b4 := l4
      have l5' : updL L 16 w1.heap.size 16 = some w1.heap.size := rfl
      have hact : ((putM (mkrs n) L A).put (some 29) (aggV (grV n b0 b1 b2 b3 b4))).put (some 3) (ptV w1.heap.size) = (act6 n b0 b1 b2 b3 b4 w1.heap.size A).put (some 29) (aggV (grV n b0 b1 b2 b3 b4)) := by
        rw [Act.put_comm _ _ _ (fun d e => by cases e; simp), ← putM_all l0' l1' l2' l3' l4' l5', putM_upd L w1.heap.size (mkrs n) A (mkrs_distinct n) ⟨16, 3, ptV, obG⟩ m16 l5]
      have key1 : ∀ l' : Array Bool, l' = #[true, true, true, true, true, true, true, true, true, true, true, true, true, true, true, true, true, false] → wpAny Try.prog .any ops Q 1 l' ((act6 n b0 b1 b2 b3 b4 w1.heap.size A).put (some 29) (aggV (grV n b0 b1 b2 b3 b4))) (w1.alloc obG) := fun l' e => by
        subst e; exact reg1_store R hsz hw2 l0' l1' l2' l3' l4' l5' (hQ b0 b1 b2 b3 b4 w1.heap.size)
      have key : ∀ l' : Array Bool, l' = #[true, true, true, true, true, true, true, true, true, true, true, true, true, true, true, true, false, false] → wpAny Try.prog .any ops Q 2 l' ((putM (mkrs n) L A).put (some 29) (aggV (grV n b0 b1 b2 b3 b4))) w1 := fun l' e => by
        subst e
        refine ⟨fun h => ?_, fun i hi => ?_⟩
        · rw [R.r16] at h; cases h
        · rw [R.r16] at hi
          simp only [List.mem_singleton] at hi
          subst hi
          unfold wpOp
          simp only [g1]
          rw [if_pos (by simp [Region.wanted, g2])]
          refine .inl ?_
          unfold Oper.wp
          rw [exec_box g4]
          simp only [Oper.upon, g3]
          rw [hact]
          exact key1 _ (by rfl)
      rw [hmis]
      refine key _ ?_
      rw [hlist]
      simp [List.range, List.range.loop, pur, hL15, hL17, l0, l1, l2, l3, l4, l5]
  case hl =>
    refine ⟨rfl, fun j hj => ?_⟩
    have hc : j = 0 ∨ j = 1 ∨ j = 2 ∨ j = 3 ∨ j = 4 ∨ j = 5 ∨ j = 6 ∨ j = 7 ∨ j = 8 ∨ j = 9 ∨ j = 10 ∨ j = 11 ∨ j = 12 ∨ j = 13 ∨ j = 14 ∨ j = 15 ∨ j = 16 ∨ j = 17 := by omega
    rcases hc with rfl | rfl | rfl | rfl | rfl | rfl | rfl | rfl | rfl | rfl | rfl | rfl | rfl | rfl | rfl | rfl | rfl | rfl <;> rfl
  case hw => exact ⟨Below.refl _ _, Nat.le_refl _, fun m _ b hb => (by cases hb), fun m _ m' _ b hb _ => (by cases hb)⟩
end Go.Proofs.Qxb6601491a
