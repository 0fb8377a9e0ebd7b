/-
  A MAP FROM STRINGS TO POINTERS, AS THE MODEL HAS IT; WHAT A staticChildren HOLDS.
-/
import Derived.Test.Qxb6601888aStrB
import Derived.WideMake
import Derived.ChangeMaps5
namespace Go.Proofs.Qxb6601888a
open Go.RowKit

/-- The children: a text and its node's address each, in the order in which they came. -/
abbrev Kids := List (ByteArray × Addr)

/-- The node for a text. -/
def findAddr (l : Kids) (t : ByteArray) : Option Addr := (l.find? fun p => eqs p.1 t).map (·.2)

/-- The entries hold the children. -/
def Entries (es : List MapEntry) (l : Kids) : Prop := es.map (fun e => (e.key, e.val)) = l.map fun p => (Value.string p.1, Value.pointer (some p.2))

theorem beq_eqs (x y : ByteArray) : (x == y) = eqs y x := by
  cases h : eqs y x with
  | true => exact (MapKept.bytes_beq x y).2 (eqs_iff.1 h).symm
  | false =>
    cases g : (x == y) with
    | false => rfl
    | true => rw [eqs_iff.2 ((MapKept.bytes_beq x y).1 g).symm] at h; cases h

theorem findNow_kids (t : ByteArray) : ∀ (l : Kids) (es : List MapEntry) (i : Nat), Entries es l →
    ∃ r, Instr.findNow .string (.string t) es i = some r ∧ r.map (·.2) = (findAddr l t).map fun a => Value.pointer (some a) := by
  intro l
  induction l with
  | nil =>
    intro es i h
    cases es with
    | nil => exact ⟨none, rfl, rfl⟩
    | cons e es => simp [Entries] at h
  | cons p l ih =>
    intro es i h
    cases es with
    | nil => simp [Entries] at h
    | cons e es =>
      simp only [Entries, List.map_cons, List.cons.injEq, Prod.mk.injEq] at h
      obtain ⟨⟨hk, hv⟩, hr⟩ := h
      simp only [Instr.findNow, hk, Instr.sameNow]
      rw [beq_eqs]
      cases hq : eqs p.1 t with
      | true =>
        refine ⟨some (i, e.val), rfl, ?_⟩
        simp [findAddr, hq, hv]
      | false =>
        obtain ⟨r, h1, h2⟩ := ih es (i + 1) hr
        refine ⟨r, h1, ?_⟩
        rw [h2]
        simp [findAddr, hq]

theorem findNow_none {t : ByteArray} {l : Kids} {es : List MapEntry} (h : Entries es l) (hf : findAddr l t = none) : Instr.findNow .string (.string t) es 0 = some none := by
  obtain ⟨r, h1, h2⟩ := findNow_kids t l es 0 h
  rw [hf] at h2
  cases r with
  | none => exact h1
  | some r => simp at h2

section
variable {P : Program} (w : World)

theorem run_lookup_kids {mt kt et : TypeId} (hm : P.underlying mt = some (.map kt et)) (hk : P.underlying kt = some .string) (hz : ∀ w, (zeroValue et).run P w = .ok (.pointer none) w) {b clock : Nat} {es : Array MapEntry} {l : Kids}
    (hb : w.heap[b]? = some (.map es clock)) (he : Entries es.toList l) (t : ByteArray) (ok : Bool) :
    (Instr.lookup mt (.map (some b)) (.string t) ok).run P w = .ok (if ok then .tuple #[.pointer (findAddr l t), .bool (findAddr l t).isSome] else .pointer (findAddr l t)) w := by
  obtain ⟨r, h1, h2⟩ := findNow_kids t l es.toList 0 he
  have hc : (Instr.checkKey es.isEmpty 10000 kt (.string t)).run P w = .ok () w := MapKept.run_checkKey (k := .string t) hk (by simp [MapKept.IsKey]) _ 9999
  cases r with
  | none =>
    have hf : findAddr l t = none := by cases h : findAddr l t with
      | none => rfl
      | some a => rw [h] at h2; simp at h2
    cases ok <;> simp [Instr.lookup, run_underlying hm, MapKept.run_getObj_map hb, hc, MapKept.run_findKey hk h1, hz, hf, Result.andThen]
  | some r =>
    obtain ⟨a, hf, hv⟩ : ∃ a, findAddr l t = some a ∧ r.2 = .pointer (some a) := by
      cases h : findAddr l t with
      | none => rw [h] at h2; simp at h2
      | some a => rw [h] at h2; exact ⟨a, rfl, by simpa using h2⟩
    cases ok <;> simp [Instr.lookup, run_underlying hm, MapKept.run_getObj_map hb, hc, MapKept.run_findKey hk h1, hf, hv, Result.andThen]

theorem run_update_kids {mt kt et : TypeId} (hm : P.underlying mt = some (.map kt et)) (hk : P.underlying kt = some .string) {b clock : Nat} {es : Array MapEntry} {l : Kids}
    (hb : w.heap[b]? = some (.map es clock)) (he : Entries es.toList l) (t : ByteArray) (hf : findAddr l t = none) (v : Value) :
    (Instr.mapUpdate mt (.map (some b)) (.string t) v).run P w = .ok () (ChangeMaps.setBlock w b (.map (es.push { key := .string t, val := v, born := clock }) (clock + 1))) := by
  have hc : (Instr.checkKey false 10000 kt (.string t)).run P w = .ok () w := MapKept.run_checkKey (k := .string t) hk (by simp [MapKept.IsKey]) false 9999
  simp [Instr.mapUpdate, run_underlying hm, MapKept.run_getObj_map hb, hc, MapKept.run_findKey hk (findNow_none he hf), MapKept.run_setObj_map _ hb, Result.andThen, ChangeMaps.setBlock]

theorem run_makeMap_hint {mt kt et : TypeId} (hm : P.underlying mt = some (.map kt et)) (k : IntKind) (n : Int) :
    (Instr.makeMap mt (some (.int k n))).run P w = .ok (.map (some w.heap.size)) (w.alloc (.map #[] 0)) := by
  simp [Instr.makeMap, run_underlying hm, asInt, asIntOf]
end

theorem entries_push {es : Array MapEntry} {l : Kids} (h : Entries es.toList l) (t : ByteArray) (a : Addr) (c : Nat) : Entries (es.push { key := .string t, val := .pointer (some a), born := c }).toList (l ++ [(t, a)]) := by
  unfold Entries at h ⊢
  rw [Array.toList_push, List.map_append, h]
  simp

theorem findAddr_append (l m : Kids) (t : ByteArray) : findAddr (l ++ m) t = (findAddr l t).or (findAddr m t) := by
  unfold findAddr
  rw [List.find?_append]
  cases l.find? (fun p => eqs p.1 t) <;> rfl

/-- The cells of the list 'few'. -/
def fewCells (l : Kids) : List Value := l.flatMap fun p => [.string p.1, .pointer (some p.2)]

theorem fewCells_length (l : Kids) : (fewCells l).length = l.length * 2 := by
  induction l with
  | nil => rfl
  | cons p l ih => simp only [fewCells, List.flatMap_cons, List.length_append, List.length_cons, List.length_nil] at ih ⊢; omega

theorem fewCells_at (l : Kids) (k : Nat) (h : k < l.length) : (fewCells l)[k * 2]? = some (.string l[k].1) ∧ (fewCells l)[k * 2 + 1]? = some (.pointer (some l[k].2)) := by
  induction l generalizing k with
  | nil => simp at h
  | cons p l ih =>
    cases k with
    | zero => simp [fewCells]
    | succ k =>
      have := ih k (by simpa using h)
      simp only [fewCells, List.flatMap_cons, List.getElem_cons_succ] at this ⊢
      rw [show (k + 1) * 2 = k * 2 + 2 by omega]
      exact this

/-- WHAT A staticChildren AT BLOCK S HOLDS: its children in the list while they are at most eight, else in the map. -/
def St (w : World) (base S : Nat) (l : Kids) : Prop :=
  ∃ vf vm, w.heap[S]? = some (.cells #[vf, vm] 34 (0, 0)) ∧
    ((l.length ≤ 8 ∧ vm = .map none ∧ w.ownsRow base 68 2 vf l.length (fewCells l)) ∨
     (8 < l.length ∧ vf = .slice none 0 0 ∧ ∃ m es clock, vm = .map (some m) ∧ base ≤ m ∧ w.heap[m]? = some (.map es clock) ∧ Entries es.toList l))

theorem ownsRow_congr {w w' : World} {base e size n : Nat} {v : Value} {xs : List Value} (h : w.ownsRow base e size v n xs) (hk : ∀ g, v.ownBlock = some g → w'.heap[g]? = w.heap[g]?) : w'.ownsRow base e size v n xs := by
  refine ⟨h.1, ?_⟩
  rcases h.2 with h0 | ⟨g, cap, cur, rfl, h1, h2, h3⟩
  · exact .inl h0
  · exact .inr ⟨g, cap, cur, rfl, h1, (hk g rfl).trans h2, h3⟩

/-- All that lay there is as it was: the children too. -/
theorem St.below {w w' : World} {base S : Nat} {l : Kids} (h : St w base S l) (hb : Below w.heap.size w w') : St w' base S l := by
  obtain ⟨vf, vm, hS, h2⟩ := h
  have lt : ∀ {k o}, w.heap[k]? = some o → k < w.heap.size := fun h => (Array.getElem?_eq_some_iff.1 h).1
  refine ⟨vf, vm, (hb.block S (lt hS)).trans hS, ?_⟩
  rcases h2 with ⟨h3, h4, h5⟩ | ⟨h3, h4, m, es, c, h5, h6, h7, h8⟩
  · exact .inl ⟨h3, h4, ownsRow_congr h5 fun g hg => hb.block g (h5.lt g hg).2⟩
  · exact .inr ⟨h3, h4, m, es, c, h5, h6, (hb.block m (lt h7)).trans h7, h8⟩
end Go.Proofs.Qxb6601888a
