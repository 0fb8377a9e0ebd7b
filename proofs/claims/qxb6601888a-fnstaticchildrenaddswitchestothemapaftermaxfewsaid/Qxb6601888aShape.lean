/-
  ZZStaticShape, ZZStaticFewAt, ZZStaticMapAt, walked.
-/
import Derived.Test.Qxb6601888aLawA
import Derived.LaidEqlPtr
namespace Go.Proofs.Qxb6601888a
open Go.RowKit

theorem len_map_nil (w : World) (ty : TypeId) : (Builtin.len_ #[32] ty #[.map none]).run Try.prog w = .ok (.int .i64 0) w := by
  simp [Builtin.len_, run_underlying Try.underlying32, goInt, Result.andThen]

theorem len_map_some {w : World} {b clock : Nat} {es : Array MapEntry} (hb : w.heap[b]? = some (.map es clock)) (ty : TypeId) : (Builtin.len_ #[32] ty #[.map (some b)]).run Try.prog w = .ok (.int .i64 es.size) w := by
  simp [Builtin.len_, run_underlying Try.underlying32, MapKept.run_getObj_map hb, goInt, Result.andThen]

theorem entries_length {es : Array MapEntry} {l : Kids} (h : Entries es.toList l) : es.size = l.length := by
  have := congrArg List.length h
  simpa using this

/-- What 'ZZStaticShape' says. -/
def shapeOf (n : Nat) : Value := if n ≤ 8 then .tuple #[.int .i64 n, .int .i64 0, .bool false] else .tuple #[.int .i64 0, .int .i64 n, .bool true]

set_option maxHeartbeats 400000 in
theorem shape_few (S n cap : Nat) (a : Option Addr) (w : World) (hS : w.heap[S]? = some (.cells #[.slice a n cap, .map none] 34 (0, 0))) :
    Calls Try.prog 23 #[.pointer (some ⟨S, 0, none⟩)] w fun e w' => e = .returned (.tuple #[.int .i64 n, .int .i64 0, .bool false]) ∧ ∃ q, w' = w.drewN q := by
  obtain ⟨c0, c1⟩ := cells_two hS
  have hnm := fun w => run_neq_map_nil (P := Try.prog) w 32 9 37 none Try.underlying32
  have hlm := len_map_nil
  clear hS
  go_enter Try.func23, Try.ntmps23
  go_wp2_with fail
  go_quiet (fail)
  go_wp2_with fail
  go_ret3
  exact ⟨rfl, nq, rfl⟩

set_option maxHeartbeats 400000 in
theorem shape_map (S m clock : Nat) (es : Array MapEntry) (w : World) (hS : w.heap[S]? = some (.cells #[.slice none 0 0, .map (some m)] 34 (0, 0))) (hm : w.heap[m]? = some (.map es clock)) :
    Calls Try.prog 23 #[.pointer (some ⟨S, 0, none⟩)] w fun e w' => e = .returned (.tuple #[.int .i64 0, .int .i64 es.size, .bool true]) ∧ ∃ q, w' = w.drewN q := by
  obtain ⟨c0, c1⟩ := cells_two hS
  have hnm := fun w => run_neq_map_nil (P := Try.prog) w 32 9 37 (some m) Try.underlying32
  have hlm : ∀ n ty, (Builtin.len_ #[32] ty #[.map (some m)]).run Try.prog (w.drewN n) = .ok (.int .i64 es.size) (w.drewN n) := fun n ty => len_map_some (w := w.drewN n) hm ty
  clear hS
  go_enter Try.func23, Try.ntmps23
  go_wp2_with fail
  go_quiet (fail)
  go_wp2_with fail
  go_ret3
  exact ⟨rfl, nq, rfl⟩

theorem shape_zz (base S : Nat) (l : Kids) (w : World) (h : St w base S l) :
    Calls Try.prog 23 #[.pointer (some ⟨S, 0, none⟩)] w fun e w' => e = .returned (shapeOf l.length) ∧ ∃ q, w' = w.drewN q := by
  obtain ⟨vf, vm, hS, h2⟩ := h
  rcases h2 with ⟨h8, rfl, hrow⟩ | ⟨h8, rfl, m, es, c, rfl, -, hm, he⟩
  · unfold shapeOf
    rw [if_pos h8]
    rcases hrow.2 with ⟨rfl, h0⟩ | ⟨g, cap, cur, rfl, -, hg, -⟩
    · rw [h0]; exact shape_few S 0 0 none w hS
    · exact shape_few S l.length cap _ w hS
  · unfold shapeOf
    rw [if_neg (by omega), ← entries_length he]
    exact shape_map S m c es w hS hm

set_option maxHeartbeats 400000 in
theorem few_at (S g n cap j : Nat) (x : ByteArray) (b : Addr) (w : World) (_h8 : n ≤ 8) (hj : j < n) (hS : w.heap[S]? = some (.cells #[.slice (some ⟨g, 0, none⟩) n cap, .map none] 34 (0, 0)))
    (d0 : w.cell? ⟨g, j * 2, none⟩ = some (.string x)) (d1 : w.cell? ⟨g, j * 2 + 1, none⟩ = some (.pointer (some b))) :
    Calls Try.prog 24 #[.pointer (some ⟨S, 0, none⟩), .int .i64 j] w fun e w' => e = .returned (.tuple #[.string x, .pointer (some b)]) ∧ ∃ q, w' = w.drewN q := by
  obtain ⟨c0, c1⟩ := cells_two hS
  clear hS
  go_enter Try.func24, Try.ntmps24
  go_wp2_with fail
  go_quiet (fail)
  go_wp2_with fail
  go_ret2
  exact ⟨rfl, nq, rfl⟩

theorem few_zz (base S : Nat) (l : Kids) (j : Nat) (w : World) (h : St w base S l) (h8 : l.length ≤ 8) (hj : j < l.length) :
    Calls Try.prog 24 #[.pointer (some ⟨S, 0, none⟩), .int .i64 j] w fun e w' => e = .returned (.tuple #[.string l[j].1, .pointer (some l[j].2)]) ∧ ∃ q, w' = w.drewN q := by
  obtain ⟨vf, vm, hS, h2⟩ := h
  rcases h2 with ⟨-, rfl, hrow⟩ | ⟨h9, _⟩
  · rcases hrow.2 with ⟨rfl, h0⟩ | ⟨g, cap, cur, rfl, -, hg, -⟩
    · omega
    · obtain ⟨d0, d1⟩ := few_cells rfl hrow j hj
      exact few_at S g l.length cap j _ _ w h8 hj hS d0 d1
  · omega

set_option maxHeartbeats 400000 in
theorem map_at (S m clock : Nat) (vf : Value) (es : Array MapEntry) (l : Kids) (t : ByteArray) (w : World) (hS : w.heap[S]? = some (.cells #[vf, .map (some m)] 34 (0, 0))) (hm : w.heap[m]? = some (.map es clock)) (he : Entries es.toList l) :
    Calls Try.prog 25 #[.pointer (some ⟨S, 0, none⟩), .string t] w fun e w' => e = .returned (.tuple #[.pointer (findAddr l t), .bool (findAddr l t).isSome]) ∧ w' = w := by
  obtain ⟨c0, c1⟩ := cells_two hS
  have hlk := run_lookup_kids (P := Try.prog) w Try.underlying32 Try.underlying9 Try.zero37 hm he t true
  have e0 : (if true = true then Value.tuple #[.pointer (findAddr l t), .bool (findAddr l t).isSome] else .pointer (findAddr l t)) = .tuple #[.pointer (findAddr l t), .bool (findAddr l t).isSome] := rfl
  rw [e0] at hlk
  generalize (findAddr l t).isSome = r0 at hlk ⊢
  generalize findAddr l t = r at hlk ⊢
  clear hS hm he e0
  go_enter Try.func25, Try.ntmps25
  go_wp2_with fail
  go_ret2
  exact ⟨rfl, rfl⟩

theorem map_zz (base S : Nat) (l : Kids) (k : Nat) (w : World) (h : St w base S l) (h8 : ¬ l.length ≤ 8) (hk : k < l.length) (hnd : Apart l) :
    Calls Try.prog 25 #[.pointer (some ⟨S, 0, none⟩), .string l[k].1] w fun e w' => e = .returned (.tuple #[.pointer (some l[k].2), .bool true]) ∧ w' = w := by
  obtain ⟨vf, vm, hS, h2⟩ := h
  rcases h2 with ⟨h9, _⟩ | ⟨-, rfl, m, es, c, rfl, -, hm, he⟩
  · exact absurd h9 h8
  · have h := map_at S m c _ es l l[k].1 w hS hm he
    rw [findAddr_at hk (fun j hj hjk => hnd j k hj hk hjk) (eqs_iff.2 rfl)] at h
    exact h
end Go.Proofs.Qxb6601888a
