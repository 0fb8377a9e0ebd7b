/-
  ZZNewGraph, walked.
-/
import Derived.Test.Qxb6601491aNgJ
namespace Go.Proofs.Qxb6601491a
open Go.RowKit
open Go.Extern.Stop (cell)

attribute [local go_sem ↓] ld70 st70

set_option maxHeartbeats 1000000 in
theorem zznew_all (a : Option Addr) (n cap : Nat) (D : Nat → NodeD) (vs : Nat → Value) (w : World) (hn : n ≤ 4096) (hne : ∀ i, i < n → (D i).ne ≤ 43690) (hA : NodesAt w a n D vs) :
    Calls Try.prog 12 #[.slice a n cap] w fun e w' => ∃ b0 b1 b2 b3 b4 vl vf va, e = .returned (.tuple #[slV n b0, mpV b1, slV n b2, slV n b3, slV n b4]) ∧ Gr b0 b1 b2 b3 b4 n D vl vf va w' ∧ Below w.heap.size w w' := by
  have c1 := graph_all a n cap D vs w hn hne hA
  clear hn hne hA
  go_enter Try.func12, Try.ntmps12
  go_wp2_with fail
  refine c1.mono ?_
  rintro e w1 ⟨b0, b1, b2, b3, b4, vl, vf, va, rfl, hG, hb⟩
  clear c1
  have hone : ∀ v ∈ grV n b0 b1 b2 b3 b4, v.oneCell' = true := by
    intro v hv
    simp only [grV, List.mem_cons, List.not_mem_nil, or_false] at hv
    rcases hv with rfl | rfl | rfl | rfl | rfl <;> rfl
  obtain ⟨w3, s3, hb3, hr3, -⟩ := box_any (w := w1) (ty := 70) (z := #[.slice none 0 0, .map none, .slice none 0 0, .slice none 0 0, .slice none 0 0]) (cs := grV n b0 b1 b2 b3 b4) rfl (by rw [Try.size70]; rfl) hone
  have f0 : w3.cell? ⟨w1.heap.size, 0, none⟩ = some (slV n b0) := hr3 0 _ rfl
  have f1 : w3.cell? ⟨w1.heap.size, 1, none⟩ = some (mpV b1) := hr3 1 _ rfl
  have f2 : w3.cell? ⟨w1.heap.size, 2, none⟩ = some (slV n b2) := hr3 2 _ rfl
  have f3 : w3.cell? ⟨w1.heap.size, 3, none⟩ = some (slV n b3) := hr3 3 _ rfl
  have f4 : w3.cell? ⟨w1.heap.size, 4, none⟩ = some (slV n b4) := hr3 4 _ rfl
  have HG : Hid (Gr b0 b1 b2 b3 b4 n D vl vf va w3) := hG.later hb3
  have HB : Hid (Below w.heap.size w w3) := hb.trans (hb3.mono hb.size)
  clear hG hb hb3 hr3 hone
  go_wp2_with fail
  go_quiet (fail)
  go_wp2_with fail
  refine bodyPost_ret (results_tmp5 rfl _ _) rfl ?_
  exact ⟨b0, b1, b2, b3, b4, vl, vf, va, rfl, HG.out.later ⟨rfl, rfl, rfl, Nat.le_refl _, fun _ _ => rfl⟩, HB.out.trans ⟨rfl, rfl, rfl, Nat.le_refl _, fun _ _ => rfl⟩⟩
end Go.Proofs.Qxb6601491a
