/-
  newGraph's FIRST STATEMENT: the law of the whole region.
-/
import Derived.Test.Qxb6601491aMakH
namespace Go.Proofs.Qxb6601491a
open Go.RowKit
open Go.Extern.Stop (cell)

theorem wpAny_of_listed {P : Program} {md : Region.Mode} {ops : Array Oper} {Q : Exit → Act → World → Prop} {f : Nat} {l l' : Array Bool} {a : Act} {w : World} (e : l = l') (h : wpAny P md ops Q f l' a w) : wpAny P md ops Q f l a w := e ▸ h

/-- An operation of the region that only reckons. -/
def pOK (ops : Array Oper) (i d : Nat) (op : Op) : Prop := ∃ o, ops[i]? = some o ∧ o.guard = none ∧ o.dst = some d ∧ o.op = op

theorem exec_move {a : Act} {o : Oper} {x : Operand} {w : World} {v : Value} (hop : o.op = .move x) (h : a.eval x = v) : (execOp a.eval o).run Try.prog w = .ok (.value v) w := by
  simp [execOp, hop, h]

theorem exec_len {a : Act} {o : Oper} {x : Operand} {w : World} {p : Option Addr} {n c : Nat} (hop : o.op = .call { callee := .builtin .len, args := #[x], argTypes := #[31] }) (h : a.eval x = .slice p n c) : (execOp a.eval o).run Try.prog w = .ok (.value (.int .i64 n)) w := by
  simp [execOp, hop, h, resolve, invoke, builtin, Builtin.len_, run_underlying Try.underlying31, goInt]

theorem wpAny_take' {ops : Array Oper} {Q : Exit → Act → World → Prop} {i d : Nat} {o : Oper} {v : Value} {fuel : Nat} {listed : Array Bool} {a : Act} {w : World} (hi : ops[i]? = some o) (hg : o.guard = none) (hd : o.dst = some d)
    (hs : Region.noSelect ops = true) (hf : Region.free .any ops listed i = true) (hr : (Region.ready .any ops listed).contains i = true)
    (hP : ∀ c a d v w, Q (.panic c) (Act.put a d v) w → Q (.panic c) a w) (hy : ∀ w, (execOp a.eval o).run Try.prog w = .ok (.value v) w)
    (h : wpAny Try.prog .any ops Q fuel (listed.setIfInBounds i true) (a.put (some d) v) w) : wpAny Try.prog .any ops Q (fuel + 1) listed a w :=
  wpAny_take hi hs hf hr (fun c a w => hP c a _ _ w) (.inl ⟨by simp [Region.wanted, hg], hy⟩) (by rw [hd]; exact h)

theorem eval_put_ne {a : Act} {d t : Nat} {v : Value} (h : d ≠ t) : (a.put (some d) v).eval (.tmp t) = a.eval (.tmp t) := by
  simp [Act.eval, Act.put, Array.getElem?_setIfInBounds_ne h]

theorem eval_put_eq {a : Act} {d : Nat} {v : Value} (h : d < a.tmps.size) : (a.put (some d) v).eval (.tmp d) = v := by
  simp [Act.eval, Act.put, h]

theorem size_put {a : Act} {d : Nat} {v : Value} : (a.put (some d) v).tmps.size = a.tmps.size := by simp [Act.put]

structure Pures (ops : Array Oper) : Prop where
  sel : Region.noSelect ops = true
  p0 : pOK ops 0 14 (.move (.tmp 0))
  f0 : Region.free .any ops #[false, false, false, false, false, false, false, false, false, false, false, false, false, false, false, false, false, false] 0 = true
  g0 : (Region.ready .any ops #[false, false, false, false, false, false, false, false, false, false, false, false, false, false, false, false, false, false]).contains 0 = true
  p1 : pOK ops 1 15 (.call { callee := .builtin .len, args := #[.tmp 14], argTypes := #[31] })
  f1 : Region.free .any ops #[true, false, false, false, false, false, false, false, false, false, false, false, false, false, false, false, false, false] 1 = true
  g1 : (Region.ready .any ops #[true, false, false, false, false, false, false, false, false, false, false, false, false, false, false, false, false, false]).contains 1 = true
  p3 : pOK ops 3 17 (.move (.tmp 0))
  f3 : Region.free .any ops #[true, true, false, false, false, false, false, false, false, false, false, false, false, false, false, false, false, false] 3 = true
  g3 : (Region.ready .any ops #[true, true, false, false, false, false, false, false, false, false, false, false, false, false, false, false, false, false]).contains 3 = true
  p4 : pOK ops 4 18 (.call { callee := .builtin .len, args := #[.tmp 17], argTypes := #[31] })
  f4 : Region.free .any ops #[true, true, false, true, false, false, false, false, false, false, false, false, false, false, false, false, false, false] 4 = true
  g4 : (Region.ready .any ops #[true, true, false, true, false, false, false, false, false, false, false, false, false, false, false, false, false, false]).contains 4 = true
  p6 : pOK ops 6 20 (.move (.tmp 0))
  f6 : Region.free .any ops #[true, true, false, true, true, false, false, false, false, false, false, false, false, false, false, false, false, false] 6 = true
  g6 : (Region.ready .any ops #[true, true, false, true, true, false, false, false, false, false, false, false, false, false, false, false, false, false]).contains 6 = true
  p7 : pOK ops 7 21 (.call { callee := .builtin .len, args := #[.tmp 20], argTypes := #[31] })
  f7 : Region.free .any ops #[true, true, false, true, true, false, true, false, false, false, false, false, false, false, false, false, false, false] 7 = true
  g7 : (Region.ready .any ops #[true, true, false, true, true, false, true, false, false, false, false, false, false, false, false, false, false, false]).contains 7 = true
  p9 : pOK ops 9 23 (.move (.tmp 0))
  f9 : Region.free .any ops #[true, true, false, true, true, false, true, true, false, false, false, false, false, false, false, false, false, false] 9 = true
  g9 : (Region.ready .any ops #[true, true, false, true, true, false, true, true, false, false, false, false, false, false, false, false, false, false]).contains 9 = true
  p10 : pOK ops 10 24 (.call { callee := .builtin .len, args := #[.tmp 23], argTypes := #[31] })
  f10 : Region.free .any ops #[true, true, false, true, true, false, true, true, false, true, false, false, false, false, false, false, false, false] 10 = true
  g10 : (Region.ready .any ops #[true, true, false, true, true, false, true, true, false, true, false, false, false, false, false, false, false, false]).contains 10 = true
  p12 : pOK ops 12 26 (.move (.tmp 0))
  f12 : Region.free .any ops #[true, true, false, true, true, false, true, true, false, true, true, false, false, false, false, false, false, false] 12 = true
  g12 : (Region.ready .any ops #[true, true, false, true, true, false, true, true, false, true, true, false, false, false, false, false, false, false]).contains 12 = true
  p13 : pOK ops 13 27 (.call { callee := .builtin .len, args := #[.tmp 26], argTypes := #[31] })
  f13 : Region.free .any ops #[true, true, false, true, true, false, true, true, false, true, true, false, true, false, false, false, false, false] 13 = true
  g13 : (Region.ready .any ops #[true, true, false, true, true, false, true, true, false, true, true, false, true, false, false, false, false, false]).contains 13 = true

/-- The frame when those have been taken. -/
def pures (a : Option Addr) (n cap : Nat) (A : Act) : Act := (((((((((A.put (some 14) (.slice a n cap)).put (some 15) (.int .i64 n)).put (some 17) (.slice a n cap)).put (some 18) (.int .i64 n)).put (some 20) (.slice a n cap)).put (some 21) (.int .i64 n)).put (some 23) (.slice a n cap)).put (some 24) (.int .i64 n)).put (some 26) (.slice a n cap)).put (some 27) (.int .i64 n)

set_option maxHeartbeats 2000000 in
theorem reg1_whole {ops : Array Oper} {Q : Exit → Act → World → Prop} {A : Act} {w : World} {a : Option Addr} {n cap : Nat} (R : Reg1 ops) (U : Pures ops) (hn : n ≤ 4096) (hsz : A.tmps.size = 162) (E0 : A.eval (.tmp 0) = .slice a n cap)
    (hP : ∀ c a d v w, Q (.panic c) (Act.put a d v) w → Q (.panic c) a w)
    (hQ : ∀ b0 b1 b2 b3 b4 b5 w', GraphNew n w.heap.size b0 b1 b2 b3 b4 b5 w w' → Q .normal ((act6 n b0 b1 b2 b3 b4 b5 (pures a n cap A)).put (some 29) (aggV (grV n b0 b1 b2 b3 b4))) w') :
    wpAny Try.prog .any ops Q 18 #[false, false, false, false, false, false, false, false, false, false, false, false, false, false, false, false, false, false] A w := by
  obtain ⟨o, q1, q2, q3, q4⟩ := U.p0
  refine wpAny_take' q1 q2 q3 U.sel U.f0 U.g0 hP (fun w => exec_move (v := .slice a n cap) q4 (by simp [E0])) ?_
  refine wpAny_of_listed (l' := #[true, false, false, false, false, false, false, false, false, false, false, false, false, false, false, false, false, false]) (by rfl) ?_
  obtain ⟨o, q1, q2, q3, q4⟩ := U.p1
  refine wpAny_take' q1 q2 q3 U.sel U.f1 U.g1 hP (fun w => exec_len (p := a) (n := n) (c := cap) q4 (by simp [eval_put_eq, hsz])) ?_
  refine wpAny_of_listed (l' := #[true, true, false, false, false, false, false, false, false, false, false, false, false, false, false, false, false, false]) (by rfl) ?_
  obtain ⟨o, q1, q2, q3, q4⟩ := U.p3
  refine wpAny_take' q1 q2 q3 U.sel U.f3 U.g3 hP (fun w => exec_move (v := .slice a n cap) q4 (by simp [eval_put_ne, E0])) ?_
  refine wpAny_of_listed (l' := #[true, true, false, true, false, false, false, false, false, false, false, false, false, false, false, false, false, false]) (by rfl) ?_
  obtain ⟨o, q1, q2, q3, q4⟩ := U.p4
  refine wpAny_take' q1 q2 q3 U.sel U.f4 U.g4 hP (fun w => exec_len (p := a) (n := n) (c := cap) q4 (by simp [eval_put_eq, size_put, hsz])) ?_
  refine wpAny_of_listed (l' := #[true, true, false, true, true, false, false, false, false, false, false, false, false, false, false, false, false, false]) (by rfl) ?_
  obtain ⟨o, q1, q2, q3, q4⟩ := U.p6
  refine wpAny_take' q1 q2 q3 U.sel U.f6 U.g6 hP (fun w => exec_move (v := .slice a n cap) q4 (by simp [eval_put_ne, E0])) ?_
  refine wpAny_of_listed (l' := #[true, true, false, true, true, false, true, false, false, false, false, false, false, false, false, false, false, false]) (by rfl) ?_
  obtain ⟨o, q1, q2, q3, q4⟩ := U.p7
  refine wpAny_take' q1 q2 q3 U.sel U.f7 U.g7 hP (fun w => exec_len (p := a) (n := n) (c := cap) q4 (by simp [eval_put_eq, size_put, hsz])) ?_
  refine wpAny_of_listed (l' := #[true, true, false, true, true, false, true, true, false, false, false, false, false, false, false, false, false, false]) (by rfl) ?_
  obtain ⟨o, q1, q2, q3, q4⟩ := U.p9
  refine wpAny_take' q1 q2 q3 U.sel U.f9 U.g9 hP (fun w => exec_move (v := .slice a n cap) q4 (by simp [eval_put_ne, E0])) ?_
  refine wpAny_of_listed (l' := #[true, true, false, true, true, false, true, true, false, true, false, false, false, false, false, false, false, false]) (by rfl) ?_
  obtain ⟨o, q1, q2, q3, q4⟩ := U.p10
  refine wpAny_take' q1 q2 q3 U.sel U.f10 U.g10 hP (fun w => exec_len (p := a) (n := n) (c := cap) q4 (by simp [eval_put_eq, size_put, hsz])) ?_
  refine wpAny_of_listed (l' := #[true, true, false, true, true, false, true, true, false, true, true, false, false, false, false, false, false, false]) (by rfl) ?_
  obtain ⟨o, q1, q2, q3, q4⟩ := U.p12
  refine wpAny_take' q1 q2 q3 U.sel U.f12 U.g12 hP (fun w => exec_move (v := .slice a n cap) q4 (by simp [eval_put_ne, E0])) ?_
  refine wpAny_of_listed (l' := #[true, true, false, true, true, false, true, true, false, true, true, false, true, false, false, false, false, false]) (by rfl) ?_
  obtain ⟨o, q1, q2, q3, q4⟩ := U.p13
  refine wpAny_take' q1 q2 q3 U.sel U.f13 U.g13 hP (fun w => exec_len (p := a) (n := n) (c := cap) q4 (by simp [eval_put_eq, size_put, hsz])) ?_
  refine wpAny_of_listed (l' := #[true, true, false, true, true, false, true, true, false, true, true, false, true, true, false, false, false, false]) (by rfl) ?_
  refine reg1_law R hn ?_ ?_ ?_ ?_ ?_ ?_ hQ
  · simp [size_put, hsz]
  · simp [eval_put_ne, eval_put_eq, size_put, hsz]
  · simp [eval_put_ne, eval_put_eq, size_put, hsz]
  · simp [eval_put_ne, eval_put_eq, size_put, hsz]
  · simp [eval_put_ne, eval_put_eq, size_put, hsz]
  · simp [eval_put_eq, size_put, hsz]
end Go.Proofs.Qxb6601491a
