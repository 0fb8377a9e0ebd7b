/-
  WHOLE ARRAYS AND STRUCTS, LOADED AND STORED BY ONE EQUATION EACH: the walk does not open them cell by cell.
-/
import Derived.Test.Qxb6601491aNgB
namespace Go.Proofs.Qxb6601491a
open Go.RowKit
open Go.Extern.Stop (cell)

/-- A load, a store, by name: what the walk's rules do not open. -/
def vld (ty : TypeId) (p : Addr) : Sem Value := loadVar ty p
def vst (ty : TypeId) (p : Addr) (v : Value) : Sem Unit := storeVar ty p v

theorem ld33 (p : Addr) : loadVar 33 p = vld 33 p := rfl
theorem ld34 (p : Addr) : loadVar 34 p = vld 34 p := rfl
theorem ld37 (p : Addr) : loadVar 37 p = vld 37 p := rfl
theorem ld48 (p : Addr) : loadVar 48 p = vld 48 p := rfl
theorem ld46 (p : Addr) : loadVar 46 p = vld 46 p := rfl
theorem ld68 (p : Addr) : loadVar 68 p = vld 68 p := rfl
theorem st34 (p : Addr) (v : Value) : storeVar 34 p v = vst 34 p v := rfl
theorem st37 (p : Addr) (v : Value) : storeVar 37 p v = vst 37 p v := rfl
theorem st48 (p : Addr) (v : Value) : storeVar 48 p v = vst 48 p v := rfl
theorem st46 (p : Addr) (v : Value) : storeVar 46 p v = vst 46 p v := rfl
theorem st68 (p : Addr) (v : Value) : storeVar 68 p v = vst 68 p v := rfl

theorem Try.size33 : (Try.prog.info? 33).map (·.size) = some 20 := by kernel_rfl
theorem Try.size34 : (Try.prog.info? 34).map (·.size) = some 20 := by kernel_rfl
theorem Try.size37 : (Try.prog.info? 37).map (·.size) = some 22 := by kernel_rfl
theorem Try.size48 : (Try.prog.info? 48).map (·.size) = some 22 := by kernel_rfl
theorem Try.size46 : (Try.prog.info? 46).map (·.size) = some 22 := by kernel_rfl
theorem Try.size68 : (Try.prog.info? 68).map (·.size) = some 22 := by kernel_rfl
theorem Try.size5 (w : World) : (sizeOf 5).run Try.prog w = .ok 1 w := by kernel_rfl

/-- The value of an address. -/
def addrV (xs : List UInt8) : Value := .agg (xs.map cell).toArray
/-- The value of a struct by its cells. -/
def aggV (cs : List Value) : Value := .agg cs.toArray

theorem ldV_of {w : World} {b o : Nat} {ty : TypeId} {cs : List Value} {d : TypeDesc} (hu : Try.prog.underlying ty = some d) (hd : d.isRow = true) (hi : (Try.prog.info? ty).map (·.size) = some cs.length) (h : w.rangeAt b o cs) : (vld ty ⟨b, o, none⟩).run Try.prog w = .ok (aggV cs) w :=
  run_loadVar_mid w b o ty cs d h hu hd hi

theorem stV_of {w : World} {b o : Nat} {ty : TypeId} {cs : List Value} (hi : (Try.prog.info? ty).map (·.size) = some cs.length) (ht : w.there b o cs.length) (h1 : ∀ v ∈ cs, v.oneCell' = true) : (vst ty ⟨b, o, none⟩ (aggV cs)).run Try.prog w = .ok () (w.setCells b o cs) := by
  have := run_storeVar_mid (P := Try.prog) w b o ty cs.toArray (by simpa using ht) (by simpa using hi) (all_oneCell_toArray h1)
  rw [List.toList_toArray] at this
  exact this

theorem load33 {w : World} {b o : Nat} {xs : List UInt8} (hl : xs.length = 20) (h : w.rangeAt b o (xs.map cell)) : (vld 33 ⟨b, o, none⟩).run Try.prog w = .ok (addrV xs) w :=
  ldV_of Try.underlying33 rfl (by rw [Try.size33]; simp [hl]) h
theorem load34 {w : World} {b o : Nat} {xs : List UInt8} (hl : xs.length = 20) (h : w.rangeAt b o (xs.map cell)) : (vld 34 ⟨b, o, none⟩).run Try.prog w = .ok (addrV xs) w :=
  ldV_of Try.underlying34 rfl (by rw [Try.size34]; simp [hl]) h

theorem cell_one (b : UInt8) : (cell b).oneCell' = true := rfl

theorem edge_one (e : EdgeD) : ∀ v ∈ edgeCells e, v.oneCell' = true := by
  intro v hv
  unfold edgeCells at hv
  simp only [List.mem_append, List.mem_map, List.mem_cons, List.not_mem_nil, or_false] at hv
  rcases hv with ⟨b, -, rfl⟩ | rfl | rfl <;> rfl

theorem node_one (d : NodeD) (a : Option Addr) (n c : Nat) : ∀ v ∈ nodeCells d (.slice a n c), v.oneCell' = true := by
  intro v hv
  unfold nodeCells at hv
  simp only [List.mem_append, List.mem_map, List.mem_cons, List.not_mem_nil, or_false] at hv
  rcases hv with ⟨b, -, rfl⟩ | rfl | rfl <;> rfl

theorem addr_one (xs : List UInt8) : ∀ v ∈ xs.map cell, v.oneCell' = true := by
  intro v hv
  simp only [List.mem_map] at hv
  rcases hv with ⟨b, -, rfl⟩; rfl

theorem edge_len {e : EdgeD} (h : e.addr.length = 20) : (edgeCells e).length = 22 := by simp [edgeCells, h]
theorem node_len {d : NodeD} {v : Value} (h : d.addr.length = 20) : (nodeCells d v).length = 22 := by simp [nodeCells, h]

theorem eql33 {xs ys : List UInt8} (hx : xs.length = 20) (hy : ys.length = 20) (w : World) : (binOp .eql 33 (addrV xs) (addrV ys)).run Try.prog w = .ok (.bool (xs == ys)) w :=
  run_eql_bytes w 33 5 20 Try.underlying33 Try.underlying5 Try.size5 xs ys hx hy

theorem Try.plain33 : Try.prog.eqGuardType Try.prog.depth 33 = false := by kernel_rfl
theorem Try.plain34 : Try.prog.eqGuardType Try.prog.depth 34 = false := by kernel_rfl

/-- Addresses may be held against each other. -/
theorem guard33 (op : BinOp) (x y : Operand) (u v : List UInt8) (w : World) : (eqGuard op 33 x y (addrV u) (addrV v)).run Try.prog w = .ok () w := run_eqGuard_agg w op 33 x y _ _ Try.plain33
theorem guard34 (op : BinOp) (x y : Operand) (u v : List UInt8) (w : World) : (eqGuard op 34 x y (addrV u) (addrV v)).run Try.prog w = .ok () w := run_eqGuard_agg w op 34 x y _ _ Try.plain34

theorem rangeAt_alloc_new (w : World) (cs : List Value) (t : TypeId) : (w.alloc (.cells cs.toArray t)).rangeAt w.heap.size 0 cs := fun j v hv => by
  have h := heap_alloc_new w (.cells cs.toArray t)
  simp only [World.cell?, h]
  simpa using hv

theorem rangeAt_below {w w' : World} {b o : Nat} {cs : List Value} (h : w.rangeAt b o cs) (hb : Below w.heap.size w w') : w'.rangeAt b o cs := fun j v hv => by
  have := h j v hv
  exact (hb.cell (p := ⟨b, o + j, none⟩) (World.block_lt_of_cell? w _ this)).trans this

theorem EdgesAt.below {w w' : World} {v : Value} {ne : Nat} {E : Nat → EdgeD} (h : EdgesAt w v ne E) (hb : Below w.heap.size w w') : EdgesAt w' v ne E := by
  obtain ⟨a, cap, hv, h1, h2, h3⟩ := h
  refine ⟨a, cap, hv, h1, h2, ?_⟩
  rcases h3 with h3 | ⟨blk, off, ha, h3⟩
  · exact .inl h3
  · exact .inr ⟨blk, off, ha, fun k hk => ⟨(h3 k hk).1, rangeAt_below (h3 k hk).2 hb⟩⟩

theorem NodesAt.below {w w' : World} {a : Option Addr} {n : Nat} {D : Nat → NodeD} {vs : Nat → Value} (h : NodesAt w a n D vs) (hb : Below w.heap.size w w') : NodesAt w' a n D vs := by
  rcases h with h | ⟨blk, off, ha, h⟩
  · exact .inl h
  · exact .inr ⟨blk, off, ha, fun i hi => ⟨(h i hi).1, rangeAt_below (h i hi).2.1 hb, (h i hi).2.2.below hb⟩⟩
theorem Below.setCells {B : Nat} {a : World} {b : Nat} (hb : B ≤ b) : ∀ (vs : List Value) (o : Nat) (w : World), Below B a w → Below B a (w.setCells b o vs)
  | [], _, _, h => h
  | v :: r, o, _, h => Below.setCells hb r (o + 1) _ (h.setCell hb v)

theorem size_setCells (b : Nat) : ∀ (vs : List Value) (o : Nat) (w : World), (w.setCells b o vs).heap.size = w.heap.size
  | [], _, _ => rfl
  | v :: r, o, w => by rw [World.setCells, size_setCells b r]; simp [World.setCell]

/-- A new variable, made and set. -/
theorem box_any {w : World} {ty : TypeId} {z : Array Value} {cs : List Value} (hz : z.size = cs.length) (hi : (Try.prog.info? ty).map (·.size) = some cs.length) (h1 : ∀ v ∈ cs, v.oneCell' = true) :
    ∃ w3, (vst ty ⟨w.heap.size, 0, none⟩ (aggV cs)).run Try.prog (w.alloc (.cells z ty)) = .ok () w3 ∧ Below w.heap.size w w3 ∧ w3.rangeAt w.heap.size 0 cs ∧ w3.heap.size = w.heap.size + 1 := by
  have hn := heap_alloc_new w (.cells z ty)
  have ht : (w.alloc (.cells z ty)).there w.heap.size 0 cs.length := fun j hj => by
    constructor
    · simp only [World.cell?, hn]; simp [hz, hj]
    · simp only [World.frozen?, hn]; simp
  refine ⟨_, stV_of hi ht h1, Below.setCells (Nat.le_refl _) _ _ _ ((Below.refl _ _).alloc (Nat.le_refl _) _), World.rangeAt_setCells_same _ _ _ _ ht, ?_⟩
  rw [size_setCells]; simp

theorem box68 (w : World) (e : EdgeD) (hl : e.addr.length = 20) :
    ∃ w3, (vst 68 ⟨w.heap.size, 0, none⟩ (aggV (edgeCells e))).run Try.prog (w.alloc (.cells #[.int .u8 0, .int .u8 0, .int .u8 0, .int .u8 0, .int .u8 0, .int .u8 0, .int .u8 0, .int .u8 0, .int .u8 0, .int .u8 0, .int .u8 0, .int .u8 0, .int .u8 0, .int .u8 0, .int .u8 0, .int .u8 0, .int .u8 0, .int .u8 0, .int .u8 0, .int .u8 0, .int .u8 0, .bool false] 68)) = .ok () w3 ∧ Below w.heap.size w w3 ∧ w3.rangeAt w.heap.size 0 (edgeCells e) ∧ w3.heap.size = w.heap.size + 1 :=
  box_any (by rw [edge_len hl]; rfl) (by rw [Try.size68, edge_len hl]) (edge_one e)

theorem box46 (w : World) (e : EdgeD) (hl : e.addr.length = 20) :
    ∃ w3, (vst 46 ⟨w.heap.size, 0, none⟩ (aggV (edgeCells e))).run Try.prog (w.alloc (.cells #[.int .u8 0, .int .u8 0, .int .u8 0, .int .u8 0, .int .u8 0, .int .u8 0, .int .u8 0, .int .u8 0, .int .u8 0, .int .u8 0, .int .u8 0, .int .u8 0, .int .u8 0, .int .u8 0, .int .u8 0, .int .u8 0, .int .u8 0, .int .u8 0, .int .u8 0, .int .u8 0, .int .u8 0, .bool false] 46)) = .ok () w3 ∧ Below w.heap.size w w3 ∧ w3.rangeAt w.heap.size 0 (edgeCells e) ∧ w3.heap.size = w.heap.size + 1 :=
  box_any (by rw [edge_len hl]; rfl) (by rw [Try.size46, edge_len hl]) (edge_one e)

theorem box48 (w : World) (d : NodeD) (a : Option Addr) (n c : Nat) (hl : d.addr.length = 20) :
    ∃ w3, (vst 48 ⟨w.heap.size, 0, none⟩ (aggV (nodeCells d (.slice a n c)))).run Try.prog (w.alloc (.cells #[.int .u8 0, .int .u8 0, .int .u8 0, .int .u8 0, .int .u8 0, .int .u8 0, .int .u8 0, .int .u8 0, .int .u8 0, .int .u8 0, .int .u8 0, .int .u8 0, .int .u8 0, .int .u8 0, .int .u8 0, .int .u8 0, .int .u8 0, .int .u8 0, .int .u8 0, .int .u8 0, .string ⟨#[]⟩, .slice none 0 0] 48)) = .ok () w3 ∧ Below w.heap.size w w3 ∧ w3.rangeAt w.heap.size 0 (nodeCells d (.slice a n c)) ∧ w3.heap.size = w.heap.size + 1 :=
  box_any (by rw [node_len hl]; rfl) (by rw [Try.size48, node_len hl]) (node_one d a n c)
end Go.Proofs.Qxb6601491a
