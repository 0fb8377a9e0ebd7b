/-
  AN APPEND, BY NAME: what the walk's rules do not open; the two appends of newGraph's second loop, as facts.
-/
import Derived.Test.Qxb6601491aNgP
import Derived.Maps.AppendAt
namespace Go.Proofs.Qxb6601491a
open Go.RowKit
open Go.Extern.Stop (cell)

def vap (ts : Array TypeId) (ty : TypeId) (args : Array Value) : Sem Value := Builtin.append_ ts ty args
theorem apAny (ts : Array TypeId) (ty : TypeId) (args : Array Value) : Builtin.append_ ts ty args = vap ts ty args := rfl

theorem Try.info3 : (Try.prog.info? 3).map (fun i => (i.zero, i.size, i.bytes)) = some (some (.int .i64 0), 1, 8) := by kernel_rfl

/-- One more index. -/
theorem app41 {T : Nat} {v : Value} {zs : List Int} {w : World} (h : IRow T v zs w) (hT : T ≤ w.heap.size) (hz : zs.length ≤ 1048576) (j : Int) :
    ∃ v' w2, (∀ ty, (vap #[41, 41] ty #[v, .slice (some ⟨w.heap.size, 0, none⟩) 1 1]).run Try.prog (w.alloc (.cells #[.int .i64 j] 3)).drew = .ok v' w2) ∧ (w.alloc (.cells #[.int .i64 j] 3)).grownBy w2 v.ownBlock ∧
      w2.ownsRow T 3 1 v' (zs.length + 1) (ints zs ++ [.int .i64 j]) ∧ (v'.ownBlock = v.ownBlock ∨ v'.ownBlock = some (w.heap.size + 1)) ∧ ∃ g cap, v' = .slice (some ⟨g, 0, none⟩) (zs.length + 1) cap := by
  obtain ⟨i0, hi, hz0, hz1, hz2⟩ := info_parts Try.info3
  have hown : (w.drew.alloc (.cells #[.int .i64 j] 3)).ownsRow T 3 1 v zs.length (ints zs) := World.ownsRow.alloc (w := w.drew) h.own _
  have key := fun ty => run_append_own_at (P := Try.prog) (w.drew.alloc (.cells #[.int .i64 j] 3)) T 41 ty 3 i0 (.int .i64 0) 1 8 Try.underlying41 hi hz0 hz1 hz2 rfl (by decide) v zs.length (ints zs) hown ⟨w.heap.size, 0, none⟩ 1 1 [.int .i64 j] rfl
    (cell_one_new w.drew _ _) (by intro u hu; simp at hu; subst hu; rfl) (by unfold maxLen; omega) (by omega) (by simp; omega)
  obtain ⟨v', w2, h1, h2, h3, -, h5⟩ := key 0
  refine ⟨v', w2, fun ty => h1, ⟨h3.os, h3.tape, h3.output, h3.size, h3.block⟩, h2, ?_, ?_⟩
  · rcases h5 with h5 | h5
    · exact .inl h5
    · exact .inr (by rw [h5]; simp)
  · rcases h2.2 with ⟨-, h0⟩ | ⟨g, cap, cur, hv, -⟩
    · omega
    · exact ⟨g, cap, hv⟩
end Go.Proofs.Qxb6601491a
