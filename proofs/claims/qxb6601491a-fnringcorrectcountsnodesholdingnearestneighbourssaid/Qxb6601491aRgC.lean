/-
  zzInsertNearest, walked.
-/
import Derived.Test.Qxb6601491aRgB
import Derived.Deep.RegionWith
namespace Go.Proofs.Qxb6601491a
open Go.RowKit
open Go.Extern.Stop (cell)

theorem ld74 (p : Addr) : loadVar 74 p = vld 74 p := rfl
theorem ld75 (p : Addr) : loadVar 75 p = vld 75 p := rfl
theorem st74 (p : Addr) (v : Value) : storeVar 74 p v = vst 74 p v := rfl
theorem st75 (p : Addr) (v : Value) : storeVar 75 p v = vst 75 p v := rfl
theorem Try.size74 : (Try.prog.info? 74).map (·.size) = some 2 := by kernel_rfl
theorem Try.size75 : (Try.prog.info? 75).map (·.size) = some 40 := by kernel_rfl

/-- The two nearest so far, and their distances. -/
structure Best where
  b0 : Int
  b1 : Int
  d0 : List UInt8
  d1 : List UInt8

def Best.ok (B : Best) : Prop := B.d0.length = 20 ∧ B.d1.length = 20
/-- Their cells. -/
def Best.bs (B : Best) : List Value := [.int .i64 B.b0, .int .i64 B.b1]
def Best.ds (B : Best) : List Value := B.d0.map cell ++ B.d1.map cell

/-- One more node. -/
def ins (B : Best) (j : Int) (d : List UInt8) : Best :=
  if B.b0 < 0 ∨ lessB d B.d0 = true then ⟨j, B.b0, d, B.d0⟩ else if B.b1 < 0 ∨ lessB d B.d1 = true then ⟨B.b0, j, B.d0, d⟩ else B

/-- WHAT STANDS DURING zzInsertNearest. -/
structure IN (T : Nat) (B : Best) (d : List UInt8) (w0 w : World) : Prop where
  below : Below T w0 w
  size : T + 5 ≤ w.heap.size
  b : w.heap[T]? = some (.cells B.bs.toArray 74 (0, 0))
  ds : w.heap[T + 1]? = some (.cells B.ds.toArray 75 (0, 0))
  d : w.heap[T + 2]? = some (.cells (d.map cell).toArray 33 (0, 0))
  r0 : ∃ cur, w.heap[T + 3]? = some (.cells cur 74 (0, 0)) ∧ cur.size = 2
  r1 : ∃ cur, w.heap[T + 4]? = some (.cells cur 75 (0, 0)) ∧ cur.size = 40

section
variable {T : Nat} {B : Best} {d : List UInt8} {w0 w w' : World}

theorem IN.later (h : IN T B d w0 w) (hb : Below w.heap.size w w') : IN T B d w0 w' := by
  obtain ⟨c0, p0, q0⟩ := h.r0
  obtain ⟨c1, p1, q1⟩ := h.r1
  have hs := h.size
  exact ⟨h.below.trans (hb.mono (by omega)), Nat.le_trans hs hb.size, (hb.block _ (by omega)).trans h.b, (hb.block _ (by omega)).trans h.ds, (hb.block _ (by omega)).trans h.d, ⟨c0, (hb.block _ (by omega)).trans p0, q0⟩, ⟨c1, (hb.block _ (by omega)).trans p1, q1⟩⟩

theorem rangeAt_of {b : Nat} {cs : List Value} {t : TypeId} {fr : Nat × Nat} (h : w.heap[b]? = some (.cells cs.toArray t fr)) : w.rangeAt b 0 cs := fun j v hv => by
  simp only [World.cell?, h]
  simpa using hv

theorem there_of {b n : Nat} {cur : Array Value} {t : TypeId} (h : w.heap[b]? = some (.cells cur t (0, 0))) (hn : cur.size = n) : w.there b 0 n := fun j hj => by
  constructor
  · simp only [World.cell?, h]; simp [hn, hj]
  · simp only [World.frozen?, h]; simp

theorem ds_len (hB : B.ok) : B.ds.length = 40 := by simp [Best.ds, hB.1, hB.2]

theorem ds_one : ∀ v ∈ B.ds, v.oneCell' = true := fun v hv => by
  rcases List.mem_append.1 hv with hv | hv
  · exact addr_one _ v hv
  · exact addr_one _ v hv

theorem bs_one : ∀ v ∈ B.bs, v.oneCell' = true := fun v hv => by
  simp only [Best.bs, List.mem_cons, List.not_mem_nil, or_false] at hv
  rcases hv with rfl | rfl <;> rfl

/-- THE RESULT: two loads and two stores, in any order. -/
theorem IN.out (h : IN T B d w0 w) (hB : B.ok) :
    (∀ q, (vld 74 ⟨T, 0, none⟩).run Try.prog (w.drewN q) = .ok (aggV B.bs) (w.drewN q)) ∧ (∀ q, (vld 75 ⟨T + 1, 0, none⟩).run Try.prog (w.drewN q) = .ok (aggV B.ds) (w.drewN q)) ∧ ∃ wa wb wc wd,
      (vst 74 ⟨T + 3, 0, none⟩ (aggV B.bs)).run Try.prog w.drew = .ok () wa ∧ (vld 75 ⟨T + 1, 0, none⟩).run Try.prog wa = .ok (aggV B.ds) wa ∧ (vst 75 ⟨T + 4, 0, none⟩ (aggV B.ds)).run Try.prog wa = .ok () wc ∧
      (vst 75 ⟨T + 4, 0, none⟩ (aggV B.ds)).run Try.prog w.drew = .ok () wb ∧ (vld 74 ⟨T, 0, none⟩).run Try.prog wb = .ok (aggV B.bs) wb ∧ (vst 74 ⟨T + 3, 0, none⟩ (aggV B.bs)).run Try.prog wb = .ok () wd ∧
      ((vld 74 ⟨T + 3, 0, none⟩).run Try.prog wc = .ok (aggV B.bs) wc ∧ (vld 75 ⟨T + 4, 0, none⟩).run Try.prog wc = .ok (aggV B.ds) wc ∧ Below T w0 wc) ∧
      ((vld 74 ⟨T + 3, 0, none⟩).run Try.prog wd = .ok (aggV B.bs) wd ∧ (vld 75 ⟨T + 4, 0, none⟩).run Try.prog wd = .ok (aggV B.ds) wd ∧ Below T w0 wd) := by
  obtain ⟨c0, p0, q0⟩ := h.r0
  obtain ⟨c1, p1, q1⟩ := h.r1
  have hbT : w.rangeAt T 0 B.bs := rangeAt_of h.b
  have hdT : w.rangeAt (T + 1) 0 B.ds := rangeAt_of h.ds
  have t0 : w.there (T + 3) 0 B.bs.length := there_of p0 q0
  have t1 : w.there (T + 4) 0 B.ds.length := there_of p1 (by rw [q1, ds_len hB])
  have L74 : ∀ {w1 : World} {b : Nat}, w1.rangeAt b 0 B.bs → (vld 74 ⟨b, 0, none⟩).run Try.prog w1 = .ok (aggV B.bs) w1 := fun hr => ldV_of Try.underlying74 rfl (by rw [Try.size74]; rfl) hr
  have L75 : ∀ {w1 : World} {b : Nat}, w1.rangeAt b 0 B.ds → (vld 75 ⟨b, 0, none⟩).run Try.prog w1 = .ok (aggV B.ds) w1 := fun hr => ldV_of Try.underlying75 rfl (by rw [Try.size75, ds_len hB]) hr
  have S74 : ∀ {w1 : World}, w1.there (T + 3) 0 B.bs.length → (vst 74 ⟨T + 3, 0, none⟩ (aggV B.bs)).run Try.prog w1 = .ok () (w1.setCells (T + 3) 0 B.bs) := fun ht => stV_of (by rw [Try.size74]; rfl) ht bs_one
  have S75 : ∀ {w1 : World}, w1.there (T + 4) 0 B.ds.length → (vst 75 ⟨T + 4, 0, none⟩ (aggV B.ds)).run Try.prog w1 = .ok () (w1.setCells (T + 4) 0 B.ds) := fun ht => stV_of (by rw [Try.size75, ds_len hB]) ht ds_one
  have keep : ∀ {w1 : World} {b : Nat} {cs vs : List Value} {b' : Nat}, b ≠ b' → w1.rangeAt b 0 cs → (w1.setCells b' 0 vs).rangeAt b 0 cs := fun {w1 b cs vs b'} hne hr j v hv => by
    rw [World.cell?_of_block (a := ⟨b, 0 + j, none⟩) (heap_setCells_ne hne vs 0 w1)]; exact hr j v hv
  have tkeep : ∀ {w1 : World} {b n : Nat} {vs : List Value} {b' : Nat}, b ≠ b' → w1.there b 0 n → (w1.setCells b' 0 vs).there b 0 n := fun {w1 b n vs b'} hne ht j hj => by
    rw [World.cell?_of_block (a := ⟨b, 0 + j, none⟩) (heap_setCells_ne hne vs 0 w1), World.frozen?_of_block (a := ⟨b, 0 + j, none⟩) (heap_setCells_ne hne vs 0 w1)]; exact ht j hj
  have t0d : w.drew.there (T + 3) 0 B.bs.length := t0
  have t1d : w.drew.there (T + 4) 0 B.ds.length := t1
  have hbd : w.drew.rangeAt T 0 B.bs := hbT
  have hdd : w.drew.rangeAt (T + 1) 0 B.ds := hdT
  have bd : Below T w0 w.drew := h.below.drew
  refine ⟨fun q => L74 (w1 := w.drewN q) hbT, fun q => L75 (w1 := w.drewN q) hdT, _, _, _, _, S74 t0d, L75 (keep (by omega) hdd), S75 (tkeep (by omega) t1d), S75 t1d, L74 (keep (by omega) hbd), S74 (tkeep (by omega) t0d), ⟨?_, ?_, ?_⟩, ?_, ?_, ?_⟩
  · exact L74 (keep (by omega) (World.rangeAt_setCells_same _ _ _ _ t0d))
  · exact L75 (World.rangeAt_setCells_same _ _ _ _ (tkeep (by omega) t1d))
  · exact Below.setCells (by omega) _ _ _ (Below.setCells (by omega) _ _ _ bd)
  · exact L74 (World.rangeAt_setCells_same _ _ _ _ (tkeep (by omega) t0d))
  · exact L75 (keep (by omega) (World.rangeAt_setCells_same _ _ _ _ t1d))
  · exact Below.setCells (by omega) _ _ _ (Below.setCells (by omega) _ _ _ bd)
end
end Go.Proofs.Qxb6601491a
