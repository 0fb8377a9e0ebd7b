/-
  A MAP FROM ADDRESSES TO INTEGERS, AS THE MODEL HAS IT.
-/
import Derived.Test.Qxb6601491aNgH
import Derived.ChangeMaps5
import Derived.MapKept
namespace Go.Proofs.Qxb6601491a
open Go.RowKit
open Go.Extern.Stop (cell)

theorem equal34 {xs ys : List UInt8} (hx : xs.length = 20) (hy : ys.length = 20) (w : World) : (Op.equal 34 (addrV xs) (addrV ys)).run Try.prog w = .ok (xs == ys) w :=
  run_equalIn_bytes w 9998 34 5 20 Try.underlying34 Try.underlying5 Try.size5 xs ys hx hy

theorem checkKey34 (em : Bool) (n : Nat) {xs : List UInt8} (hx : xs.length = 20) (w : World) : (Instr.checkKey em (n + 2) 34 (addrV xs)).run Try.prog w = .ok () w := by
  rw [Instr.checkKey]
  simp only [addrV, Sem.run_bind, run_underlying Try.underlying34, Result.andThen_ok, Std.Legacy.Range.forIn_eq_forIn_range', Std.Legacy.Range.size, Nat.sub_zero, Nat.add_sub_cancel, Nat.div_one]
  have hl : ∀ i ∈ List.range' 0 20 1, i < 20 := fun i hi => by simpa using (List.mem_range'_1.1 hi).2
  generalize List.range' 0 20 1 = l at hl ⊢
  induction l with
  | nil => simp
  | cons i l ih =>
    have hi : i < 20 := hl i (by simp)
    have px : (part 5 (xs.map cell).toArray (i * 1)).run Try.prog w = .ok (cell (xs.getD i 0)) w := by
      simp [part, isAgg, run_underlying Try.underlying5, List.getD, List.getElem?_eq_getElem (show i < xs.length by omega)]
    have pe : (Instr.checkKey em (n + 1) 5 (cell (xs.getD i 0))).run Try.prog w = .ok () w := by
      unfold Instr.checkKey
      simp [Sem.run_bind, run_underlying Try.underlying5, Result.andThen]
    simp only [List.forIn_cons, Sem.run_bind, Try.size5, px, pe, Result.andThen_ok, Sem.run_pure]
    exact ih fun j hj => hl j (by simp [hj])

theorem sameBits_addr (xs : List UInt8) : Instr.sameBits 10000 (addrV xs) (addrV xs) = true := by
  unfold addrV Instr.sameBits
  simp only [beq_self_eq_true, Bool.true_and]
  induction xs with
  | nil => rfl
  | cons x xs ih =>
    simp only [List.map_cons, List.zip_cons_cons, List.all_cons, ih, Bool.and_true]
    simp [cell, Instr.sameBits]

/-- The entries hold the list. -/
def Ent (es : List MapEntry) (l : List (List UInt8 × Int)) : Prop := es.map (fun e => (e.key, e.val)) = l.map fun p => (addrV p.1, Value.int .i64 p.2)

/-- What is found: where, and what. -/
def findL (x : List UInt8) : List (List UInt8 × Int) → Nat → Option (Nat × Value)
  | [], _ => none
  | (k, u) :: r, i => if x == k then some (i, .int .i64 u) else findL x r (i + 1)

def lookL (l : List (List UInt8 × Int)) (x : List UInt8) : Option Int := (l.find? fun p => x == p.1).map (·.2)

def putL (x : List UInt8) (v : Int) : List (List UInt8 × Int) → List (List UInt8 × Int)
  | [] => [(x, v)]
  | (k, u) :: r => if x == k then (x, v) :: r else (k, u) :: putL x v r

theorem findL_look (x : List UInt8) : ∀ (l : List (List UInt8 × Int)) (i : Nat), (findL x l i).map (·.2) = (lookL l x).map (Value.int .i64)
  | [], _ => rfl
  | (k, u) :: r, i => by
    unfold findL lookL
    simp only [List.find?_cons]
    cases h : (x == k)
    · have := findL_look x r (i + 1)
      unfold lookL at this
      simpa using this
    · simp

theorem run_findAsking {x : List UInt8} (hx : x.length = 20) (w : World) : ∀ (es : List MapEntry) (l : List (List UInt8 × Int)) (i : Nat), Ent es l → (∀ p ∈ l, p.1.length = 20) →
    (Instr.findAsking 34 (addrV x) es i).run Try.prog w = .ok (findL x l i) w
  | [], [], _, _, _ => rfl
  | e :: es, (k, u) :: l, i, h, hl => by
    simp only [Ent, List.map_cons, List.cons.injEq, Prod.mk.injEq] at h
    obtain ⟨⟨h1, h2⟩, h3⟩ := h
    have ih := run_findAsking hx w es l (i + 1) h3 (fun p hp => hl p (by simp [hp]))
    unfold Instr.findAsking findL
    simp only [Sem.run_bind, h1, equal34 hx (hl (k, u) (by simp)) w, Result.andThen_ok]
    cases hq : (x == k)
    · simpa using ih
    · simp [h2]
  | [], _ :: _, _, h, _ => by simp [Ent] at h
  | _ :: _, [], _, h, _ => by simp [Ent] at h

theorem run_findKey34 {x : List UInt8} (hx : x.length = 20) (w : World) {es : List MapEntry} {l : List (List UInt8 × Int)} (h : Ent es l) (hl : ∀ p ∈ l, p.1.length = 20) :
    (Instr.findKey 34 (addrV x) es).run Try.prog w = .ok (findL x l 0) w := by
  unfold Instr.findKey
  simp only [Sem.run_bind, run_underlying Try.underlying34, Result.andThen_ok]
  cases es with
  | nil =>
    cases l with
    | nil => rfl
    | cons _ _ => simp [Ent] at h
  | cons e es =>
    cases l with
    | nil => simp [Ent] at h
    | cons p l =>
      have hk : e.key = addrV p.1 := by
        simp only [Ent, List.map_cons, List.cons.injEq, Prod.mk.injEq] at h
        exact h.1.1
      have : Instr.findNow (.array 20 5) (addrV x) (e :: es) 0 = none := by
        unfold Instr.findNow
        rw [hk]; rfl
      rw [this]
      exact run_findAsking hx w _ _ 0 h hl

/-- A put changes nothing but the entry found, or lays a new one. -/
theorem put_found (x : List UInt8) (v : Int) (f : MapEntry → MapEntry) (hf : ∀ e, (f e).key = addrV x ∧ (f e).val = .int .i64 v) : ∀ (es : List MapEntry) (l : List (List UInt8 × Int)) (i j : Nat) (u : Value), Ent es l → findL x l i = some (j, u) →
    i ≤ j ∧ Ent (es.modify (j - i) f) (putL x v l) ∧ (es[j - i]?).map (·.key) = some (addrV x)
  | [], [], _, _, _, _, hf' => by simp [findL] at hf'
  | e :: es, (k, u) :: l, i, j, u', h, h' => by
    simp only [Ent, List.map_cons, List.cons.injEq, Prod.mk.injEq] at h
    obtain ⟨⟨h1, h2⟩, h3⟩ := h
    unfold findL at h'
    unfold putL
    cases hq : (x == k)
    · simp only [hq, Bool.false_eq_true, if_false] at h' ⊢
      obtain ⟨g1, g2, g3⟩ := put_found x v f hf es l (i + 1) j u' h3 h'
      have e1 : j - i = (j - (i + 1)) + 1 := by omega
      refine ⟨by omega, ?_, ?_⟩
      · rw [e1, List.modify_succ_cons]
        simp only [Ent, List.map_cons, List.cons.injEq, Prod.mk.injEq]
        exact ⟨⟨h1, h2⟩, g2⟩
      · rw [e1, List.getElem?_cons_succ]; exact g3
    · simp only [hq, if_true, Option.some.injEq, Prod.mk.injEq] at h' ⊢
      obtain ⟨rfl, _⟩ := h'
      have hxk : x = k := by simpa using hq
      rw [Nat.sub_self]
      refine ⟨Nat.le_refl _, ?_, by simp [h1, hxk]⟩
      rw [List.modify_zero_cons]
      simp only [Ent, List.map_cons, List.cons.injEq, Prod.mk.injEq]
      exact ⟨⟨(hf e).1, (hf e).2⟩, h3⟩
  | [], _ :: _, _, _, _, h, _ => by simp [Ent] at h
  | _ :: _, [], _, _, _, h, _ => by simp [Ent] at h

theorem put_none (x : List UInt8) (v : Int) : ∀ (l : List (List UInt8 × Int)) (i : Nat), findL x l i = none → putL x v l = l ++ [(x, v)]
  | [], _, _ => rfl
  | (k, u) :: l, i, h => by
    unfold findL at h
    unfold putL
    cases hq : (x == k)
    · simp only [hq, Bool.false_eq_true, if_false] at h ⊢
      rw [put_none x v l (i + 1) h]; rfl
    · simp [hq] at h

theorem putL_len (x : List UInt8) (hx : x.length = 20) (v : Int) : ∀ (l : List (List UInt8 × Int)), (∀ p ∈ l, p.1.length = 20) → ∀ p ∈ putL x v l, p.1.length = 20
  | [], _, p, hp => by simp [putL] at hp; subst hp; exact hx
  | (k, u) :: l, h, p, hp => by
    unfold putL at hp
    split at hp
    · simp only [List.mem_cons] at hp
      rcases hp with rfl | hp
      · exact hx
      · exact h p (by simp [hp])
    · simp only [List.mem_cons] at hp
      rcases hp with rfl | hp
      · exact h _ (by simp)
      · exact putL_len x hx v l (fun q hq => h q (by simp [hq])) p hp

/-- The map at block m holds the list. -/
def IdxAt (w : World) (m : Nat) (l : List (List UInt8 × Int)) : Prop := (∃ es clock, w.heap[m]? = some (.map es clock) ∧ Ent es.toList l) ∧ ∀ p ∈ l, p.1.length = 20

theorem Try.zero3 (w : World) : (zeroValue 3).run Try.prog w = .ok (.int .i64 0) w := by kernel_rfl

theorem run_look {w : World} {m : Nat} {l : List (List UInt8 × Int)} (h : IdxAt w m l) {x : List UInt8} (hx : x.length = 20) :
    (Instr.lookup 26 (.map (some m)) (addrV x) true).run Try.prog w = .ok (.tuple #[.int .i64 ((lookL l x).getD 0), .bool (lookL l x).isSome]) w := by
  obtain ⟨⟨es, clock, hb, he⟩, hl⟩ := h
  have hc := checkKey34 es.isEmpty 9998 hx w
  have hk := run_findKey34 hx w he hl
  have hv := findL_look x l 0
  unfold Instr.lookup
  simp only [Sem.run_bind, run_underlying Try.underlying26, Result.andThen_ok, MapKept.run_getObj_map hb, Sem.run_pure, hc, hk]
  cases hf : findL x l 0 with
  | none =>
    rw [hf] at hv
    have : lookL l x = none := by cases h : lookL l x with
      | none => rfl
      | some a => rw [h] at hv; simp at hv
    simp [this]
  | some r =>
    rw [hf] at hv
    obtain ⟨a, ha, hr⟩ : ∃ a, lookL l x = some a ∧ r.2 = .int .i64 a := by
      cases h : lookL l x with
      | none => rw [h] at hv; simp at hv
      | some a => rw [h] at hv; exact ⟨a, rfl, by simpa using hv⟩
    simp [ha, hr]

theorem run_put {w : World} {m : Nat} {l : List (List UInt8 × Int)} (h : IdxAt w m l) {x : List UInt8} (hx : x.length = 20) (v : Int) :
    ∃ o, (Instr.mapUpdate 26 (.map (some m)) (addrV x) (.int .i64 v)).run Try.prog w = .ok () (ChangeMaps.setBlock w m o) ∧ IdxAt (ChangeMaps.setBlock w m o) m (putL x v l) := by
  obtain ⟨⟨es, clock, hb, he⟩, hl⟩ := h
  have hc := checkKey34 false 9998 hx w
  have hk := run_findKey34 hx w he hl
  unfold Instr.mapUpdate
  simp only [Sem.run_bind, run_underlying Try.underlying26, Result.andThen_ok, MapKept.run_getObj_map hb, hc, hk]
  cases hf : findL x l 0 with
  | none =>
    refine ⟨.map (es.push { key := addrV x, val := .int .i64 v, born := clock }) (clock + 1), by simp [MapKept.run_setObj_map _ hb, ChangeMaps.setBlock], ⟨_, _, ChangeMaps.heap_setBlock_same hb _, ?_⟩, putL_len x hx v l hl⟩
    rw [put_none x v l 0 hf, Array.toList_push]
    unfold Ent at he ⊢
    rw [List.map_append, he]; simp
  | some r =>
    obtain ⟨j, u⟩ := r
    obtain ⟨-, g2, g3⟩ := put_found x v (fun e => { e with key := addrV x, val := .int .i64 v }) (fun e => ⟨rfl, rfl⟩) es.toList l 0 j u he hf
    rw [Nat.sub_zero] at g2 g3
    have hke : ((es[j]?).map (·.key)).getD (addrV x) = addrV x := by
      rw [← Array.getElem?_toList, g3]; rfl
    have hst : (Instr.keyThatStays (addrV x) (addrV x)).run Try.prog w = .ok (addrV x) w := by
      unfold Instr.keyThatStays
      rw [if_pos (sameBits_addr x)]; rfl
    refine ⟨.map (es.modify j fun e => { e with key := addrV x, val := .int .i64 v }) clock, ?_, ⟨_, _, ChangeMaps.heap_setBlock_same hb _, ?_⟩, putL_len x hx v l hl⟩
    · simp only [Sem.run_bind, hke, hst, Result.andThen_ok, MapKept.run_setObj_map _ hb, ChangeMaps.setBlock]
    · rw [Array.toList_modify]; exact g2
end Go.Proofs.Qxb6601491a
