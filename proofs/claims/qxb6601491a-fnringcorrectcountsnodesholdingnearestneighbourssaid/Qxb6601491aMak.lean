/-
  A REGION THAT DRAWS ITS ORDER AND MAKES SEVERAL BLOCKS: THE MAKERS COME UP IN WHATEVER ORDER; WHICH NUMBER EACH BLOCK BEARS IS FORGOTTEN.
-/
import Derived.Orders
import Derived.Below
namespace Go.Proofs.Qxb6601491a
open Go.RowKit

/-- An operation that makes one block: its number in the region, its slot, the value that it leaves for block b, what it lays there. -/
structure Maker where
  idx : Nat
  dst : Nat
  V : Nat → Value
  O : Obj

/-- The frame: the slots of those that have come up. -/
def putM : List Maker → (Nat → Option Nat) → Act → Act
  | [], _, a => a
  | m :: ms, L, a => putM ms L (match L m.idx with | none => a | some b => a.put (some m.dst) (m.V b))

def updL (L : Nat → Option Nat) (i b : Nat) : Nat → Option Nat := fun j => if j = i then some b else L j

theorem putM_put (L : Nat → Option Nat) (d : Nat) (v : Value) : ∀ (ms : List Maker) (a : Act), (∀ m ∈ ms, m.dst ≠ d) → putM ms L (a.put (some d) v) = (putM ms L a).put (some d) v
  | [], _, _ => rfl
  | m :: ms, a, h => by
    unfold putM
    cases hL : L m.idx with
    | none => exact putM_put L d v ms a fun m' hm' => h m' (by simp [hm'])
    | some b =>
      simp only
      rw [Act.put_comm a v (m.V b) (fun d' e => by cases e; intro e2; cases e2; exact h m (by simp) rfl)]
      exact putM_put L d v ms _ fun m' hm' => h m' (by simp [hm'])

theorem putM_congr (L L' : Nat → Option Nat) : ∀ (ms : List Maker) (a : Act), (∀ m ∈ ms, L m.idx = L' m.idx) → putM ms L a = putM ms L' a
  | [], _, _ => rfl
  | m :: ms, a, h => by
    unfold putM
    rw [h m (by simp)]
    exact putM_congr L L' ms _ fun m' hm' => h m' (by simp [hm'])

/-- No two makers share a number or a slot. -/
def Distinct (ms : List Maker) : Prop := ms.Pairwise fun m m' => m.idx ≠ m'.idx ∧ m.dst ≠ m'.dst

theorem putM_upd (L : Nat → Option Nat) (b : Nat) : ∀ (ms : List Maker) (a : Act), Distinct ms → ∀ m ∈ ms, L m.idx = none → putM ms (updL L m.idx b) a = (putM ms L a).put (some m.dst) (m.V b)
  | [], _, _, _, hm, _ => by cases hm
  | m0 :: ms, a, hd, m, hm, hL => by
    unfold Distinct at hd
    rw [List.pairwise_cons] at hd
    rcases List.mem_cons.1 hm with rfl | hm'
    · have e : putM ms (updL L m.idx b) (a.put (some m.dst) (m.V b)) = putM ms L (a.put (some m.dst) (m.V b)) := putM_congr _ _ _ _ fun m' h' => by
        unfold updL; rw [if_neg (fun e => (hd.1 m' h').1 e.symm)]
      have g1 : putM (m :: ms) (updL L m.idx b) a = putM ms (updL L m.idx b) (a.put (some m.dst) (m.V b)) := by
        rw [putM]; simp [updL]
      have g2 : putM (m :: ms) L a = putM ms L a := by rw [putM]; rw [hL]
      rw [g1, g2, e, putM_put L m.dst (m.V b) ms a fun m' h' e => (hd.1 m' h').2 e.symm]
    · have hne : m0.idx ≠ m.idx := (hd.1 m hm').1
      have e0 : updL L m.idx b m0.idx = L m0.idx := by unfold updL; rw [if_neg hne]
      have g1 : putM (m0 :: ms) (updL L m.idx b) a = putM ms (updL L m.idx b) (match L m0.idx with | none => a | some b => a.put (some m0.dst) (m0.V b)) := by
        rw [putM, e0]
      have g2 : putM (m0 :: ms) L a = putM ms L (match L m0.idx with | none => a | some b => a.put (some m0.dst) (m0.V b)) := by rw [putM]
      rw [g1, g2]
      exact putM_upd L b ms _ hd.2 m hm' hL

theorem putM_eval (L : Nat → Option Nat) (t : Nat) : ∀ (ms : List Maker) (a : Act), (∀ m ∈ ms, m.dst ≠ t) → (putM ms L a).eval (.tmp t) = a.eval (.tmp t)
  | [], _, _ => rfl
  | m :: ms, a, h => by
    unfold putM
    rw [putM_eval L t ms _ fun m' hm' => h m' (by simp [hm'])]
    cases L m.idx with
    | none => rfl
    | some b =>
      simp only [Act.put, Act.eval]
      have : m.dst ≠ t := h m (by simp)
      simp [Array.getElem?_setIfInBounds_ne this]

/-- The world: what has come up lies there; all below B is as it was. -/
structure MW (ms : List Maker) (B : Nat) (L : Nat → Option Nat) (w0 w : World) : Prop where
  below : Below B w0 w
  size : B ≤ w.heap.size
  blk : ∀ m ∈ ms, ∀ b, L m.idx = some b → B ≤ b ∧ w.heap[b]? = some m.O
  inj : ∀ m ∈ ms, ∀ m' ∈ ms, ∀ b, L m.idx = some b → L m'.idx = some b → m.idx = m'.idx

theorem MW.step {ms : List Maker} {B : Nat} {L : Nat → Option Nat} {w0 w : World} (h : MW ms B L w0 w) (hd : Distinct ms) {m : Maker} (hm : m ∈ ms) : MW ms B (updL L m.idx w.heap.size) w0 (w.alloc m.O) := by
  have lt : ∀ m' ∈ ms, ∀ b, L m'.idx = some b → b < w.heap.size := fun m' hm' b hb => (Array.getElem?_eq_some_iff.1 (h.blk m' hm' b hb).2).1
  have same : ∀ m' ∈ ms, m'.idx = m.idx → m' = m := fun m' hm' e => by
    unfold Distinct at hd
    rcases List.mem_iff_getElem.1 hm with ⟨i, hi, ei⟩
    rcases List.mem_iff_getElem.1 hm' with ⟨j, hj, ej⟩
    rcases Nat.lt_trichotomy i j with hlt | heq | hlt
    · have := (List.pairwise_iff_getElem.1 hd i j hi hj hlt).1
      rw [ei, ej] at this; exact absurd e.symm this
    · subst heq; rw [← ei, ← ej]
    · have := (List.pairwise_iff_getElem.1 hd j i hj hi hlt).1
      rw [ei, ej] at this; exact absurd e this
  refine ⟨h.below.alloc h.size _, by have := h.size; simp; omega, fun m' hm' b hb => ?_, fun m1 h1 m2 h2 b hb1 hb2 => ?_⟩
  · unfold updL at hb
    split at hb
    · rename_i e
      obtain rfl := same m' hm' e
      cases hb
      exact ⟨h.size, heap_alloc_new w _⟩
    · obtain ⟨g1, g2⟩ := h.blk m' hm' b hb
      exact ⟨g1, (Below.heap_alloc w _ b (lt m' hm' b hb)).trans g2⟩
  · unfold updL at hb1 hb2
    split at hb1 <;> split at hb2
    · rename_i e1 e2; rw [e1, e2]
    · cases hb1; exact absurd (lt m2 h2 _ hb2) (Nat.lt_irrefl _)
    · cases hb2; exact absurd (lt m1 h1 _ hb1) (Nat.lt_irrefl _)
    · exact h.inj m1 h1 m2 h2 b hb1 hb2

/-- What is listed: the operations taken first, and those makers that have come up. -/
def Lst (N : Nat) (pure : Nat → Bool) (listed : Array Bool) (L : Nat → Option Nat) : Prop := listed.size = N ∧ ∀ j, j < N → listed[j]? = some (pure j || (L j).isSome)

theorem Lst.set {N : Nat} {pure : Nat → Bool} {listed : Array Bool} {L : Nat → Option Nat} (h : Lst N pure listed L) {i b : Nat} (hi : i < N) : Lst N pure (listed.setIfInBounds i true) (updL L i b) := by
  refine ⟨by simp [h.1], fun j hj => ?_⟩
  rw [Array.getElem?_setIfInBounds]
  by_cases e : i = j
  · subst e; simp [h.1, hi, updL]
  · rw [if_neg e, h.2 j hj]
    unfold updL
    rw [if_neg (Ne.symm e)]

def missing (ms : List Maker) (L : Nat → Option Nat) : Nat := (ms.filter fun m => (L m.idx).isNone).length

theorem missing_upd (L : Nat → Option Nat) (b : Nat) : ∀ (ms : List Maker), Distinct ms → ∀ m ∈ ms, L m.idx = none → missing ms (updL L m.idx b) + 1 = missing ms L
  | [], _, _, hm, _ => by cases hm
  | m0 :: ms, hd, m, hm, hL => by
    unfold Distinct at hd
    rw [List.pairwise_cons] at hd
    rcases List.mem_cons.1 hm with rfl | hm'
    · have e : ms.filter (fun m' => (updL L m.idx b m'.idx).isNone) = ms.filter (fun m' => (L m'.idx).isNone) := List.filter_congr fun m' h' => by
        unfold updL; rw [if_neg (fun e => (hd.1 m' h').1 e.symm)]
      have e0 : (updL L m.idx b m.idx).isNone = false := by simp [updL]
      have e1 : (L m.idx).isNone = true := by rw [hL]; rfl
      unfold missing
      rw [List.filter_cons, List.filter_cons, e0, e1, e]
      simp
    · have hne : m0.idx ≠ m.idx := (hd.1 m hm').1
      have ih := missing_upd L b ms hd.2 m hm' hL
      have e0 : updL L m.idx b m0.idx = L m0.idx := by unfold updL; rw [if_neg hne]
      unfold missing at ih ⊢
      rw [List.filter_cons, List.filter_cons, e0]
      split
      · simp only [List.length_cons]; omega
      · exact ih

/-- None but makers come up. -/
def Only (ms : List Maker) (L : Nat → Option Nat) : Prop := ∀ j, (∀ m ∈ ms, j ≠ m.idx) → L j = none

section
variable {P : Program} {md : Region.Mode} {ops : Array Oper} {Q : Exit → Act → World → Prop} {N : Nat} {pure : Nat → Bool} {ms : List Maker} {a0 : Act} {B s t : Nat} {w0 : World}

/-- THE MAKERS, IN WHATEVER ORDER. 's': the operation that waits for makers (a struct literal); 't': the one that waits for 's' (a store). -/
theorem wpAny_makers (hd : Distinct ms)
    (hmk : ∀ m ∈ ms, pure m.idx = false ∧ m.idx < N ∧ ∃ o, ops[m.idx]? = some o ∧ o.guard = none ∧ o.dst = some m.dst ∧ (∀ e ∈ o.after, Region.binds md e = true → e.on < N ∧ pure e.on = true) ∧
      ∀ L w, MW ms B L w0 w → (execOp (putM ms L a0).eval o).run P w = .ok (.value (m.V w.heap.size)) (w.alloc m.O))
    (hN : ops.size = N) (hall : ∀ j, j < N → pure j = true ∨ (∃ m ∈ ms, j = m.idx) ∨ j = s ∨ j = t)
    (hs : s < N ∧ pure s = false ∧ (∀ m ∈ ms, m.idx ≠ s) ∧ ∃ o, ops[s]? = some o ∧ ∀ e ∈ o.after, Region.binds md e = true → e.on < N ∧ (pure e.on = true ∨ ∃ m ∈ ms, e.on = m.idx))
    (ht : ∃ o, ops[t]? = some o ∧ ∃ e ∈ o.after, Region.binds md e = true ∧ e.on = s)
    (h15 : ∀ L w listed, Lst N pure listed L → Only ms L → MW ms B L w0 w → s ∈ Region.ready md ops listed → wpOp P ops Q s (wpAny P md ops Q (missing ms L + 1) (listed.setIfInBounds s true)) (putM ms L a0) w) :
    ∀ (k : Nat) (L : Nat → Option Nat) (w : World) (listed : Array Bool), missing ms L = k → Only ms L → Lst N pure listed L → MW ms B L w0 w → wpAny P md ops Q (k + 2) listed (putM ms L a0) w := by
  intro k
  refine Nat.strongRecOn k ?_
  clear k
  intro k ih L w listed hk hOn hl hw
  have hLs : L s = none := hOn s fun m hm e => hs.2.2.1 m hm e.symm
  have gd : ∀ j, j < N → ∀ d, listed.getD j d = (pure j || (L j).isSome) := fun j hj d => by
    rw [Array.getD_eq_getD_getElem?, hl.2 j hj]; rfl
  have ready_mk : ∀ m ∈ ms, L m.idx = none → m.idx ∈ Region.ready md ops listed := fun m hm hLm => by
    obtain ⟨h1, h2, o, h3, -, -, h4, -⟩ := hmk m hm
    refine mem_ready.2 ⟨by rw [gd _ h2, h1, hLm]; rfl, o, h3, fun e he hb => ?_⟩
    obtain ⟨g1, g2⟩ := h4 e he hb
    rw [gd _ g1, g2]; rfl
  have ready_s : missing ms L = 0 → s ∈ Region.ready md ops listed := fun h0 => by
    obtain ⟨h1, h2, -, o, h3, h4⟩ := hs
    refine mem_ready.2 ⟨by rw [gd _ h1, h2, hLs]; rfl, o, h3, fun e he hb => ?_⟩
    obtain ⟨g1, g2⟩ := h4 e he hb
    rw [gd _ g1]
    rcases g2 with g2 | ⟨m, hm, g2⟩
    · rw [g2]; rfl
    · have : (L m.idx).isSome = true := by
        cases hL : L m.idx with
        | some b => rfl
        | none =>
          unfold missing at h0
          have hmem : m ∈ ms.filter fun m => (L m.idx).isNone := List.mem_filter.2 ⟨hm, by rw [hL]; rfl⟩
          rw [List.eq_nil_of_length_eq_zero h0] at hmem
          cases hmem
      rw [g2, this]; simp
  refine ⟨fun h0 => ?_, fun i hi => ?_⟩
  · exfalso
    by_cases hm0 : missing ms L = 0
    · have := ready_s hm0
      rw [h0] at this; cases this
    · obtain ⟨m, hm⟩ : ∃ m, m ∈ ms.filter fun m => (L m.idx).isNone := by
        unfold missing at hm0
        cases hf : ms.filter fun m => (L m.idx).isNone with
        | nil => rw [hf] at hm0; exact absurd rfl hm0
        | cons m _ => exact ⟨m, by simp⟩
      obtain ⟨h1, h2⟩ := List.mem_filter.1 hm
      have := ready_mk m h1 (by simpa using h2)
      rw [h0] at this; cases this
  · obtain ⟨hi1, oi, hoi, hall'⟩ := mem_ready.1 hi
    have hiN : i < N := by rw [← hN]; exact (Array.getElem?_eq_some_iff.1 hoi).1
    rw [gd i hiN, Bool.or_eq_false_iff] at hi1
    rcases hall i hiN with h | ⟨m, hm, rfl⟩ | rfl | rfl
    · rw [h] at hi1; cases hi1.1
    · have hLm : L m.idx = none := by
        cases hL : L m.idx with
        | none => rfl
        | some b => rw [hL] at hi1; cases hi1.2
      obtain ⟨-, h2, o, h3, h4, h5, -, h6⟩ := hmk m hm
      have hms := missing_upd L w.heap.size ms hd m hm hLm
      have hnext := ih (missing ms (updL L m.idx w.heap.size)) (by omega) (updL L m.idx w.heap.size) (w.alloc m.O) (listed.setIfInBounds m.idx true) rfl
        (fun j hj => by unfold updL; rw [if_neg (hj m hm)]; exact hOn j hj) (hl.set h2) (hw.step hd hm)
      rw [show missing ms (updL L m.idx w.heap.size) + 2 = k + 1 by omega, putM_upd L w.heap.size ms a0 hd m hm hLm] at hnext
      unfold wpOp
      simp only [h3]
      rw [if_pos (by simp [Region.wanted, h4])]
      refine .inl ?_
      unfold Oper.wp
      rw [h6 L w hw]
      simp only [Oper.upon, h5]
      exact hnext
    · have := h15 L w listed hl hOn hw hi
      rw [hk] at this
      exact this
    · obtain ⟨o, ho, e, he, hb, hes⟩ := ht
      rw [hoi] at ho
      cases ho
      have := hall' e he hb
      rw [hes, gd _ hs.1, hs.2.1, hLs] at this
      cases this
end
end Go.Proofs.Qxb6601491a
