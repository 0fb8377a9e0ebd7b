/-
  THE NODES OF A SNAPSHOT IN MEMORY; THE GUARDS OF THE newGraph LAWS, WALKED: a bool, the world as it was but for draws.
-/
import Derived.Test.Qxb6601491aProg
import Derived.WalkKit
import Derived.WalkSpells
import Derived.WalkLawsBesides
import Derived.Deep.QuietTactic
import Derived.BigQuiet
import Derived.Deep.MidRow
import Derived.Stop.BytesEq
namespace Go.Proofs.Qxb6601491a
open Go.RowKit
open Go.Extern.Stop (cell)

/-- An edge of a node. -/
structure EdgeD where
  addr : List UInt8
  label : Int
  init : Bool

/-- A node. -/
structure NodeD where
  addr : List UInt8
  tr : ByteArray
  ne : Nat
  edges : Nat → EdgeD

def edgeCells (e : EdgeD) : List Value := e.addr.map cell ++ [.int .u8 e.label, .bool e.init]
def nodeCells (d : NodeD) (v : Value) : List Value := d.addr.map cell ++ [.string d.tr, v]

/-- The edges at a slice. -/
def EdgesAt (w : World) (v : Value) (ne : Nat) (E : Nat → EdgeD) : Prop :=
  ∃ a cap, v = .slice a ne cap ∧ (a = none → cap = 0) ∧ ne ≤ maxLen ∧ (ne = 0 ∨ ∃ blk off, a = some ⟨blk, off, none⟩ ∧ ∀ k, k < ne → (E k).addr.length = 20 ∧ w.rangeAt blk (off + k * 22) (edgeCells (E k)))

/-- The nodes at a slice; 'vs i' is the slice of the i-th node's edges. -/
def NodesAt (w : World) (a : Option Addr) (n : Nat) (D : Nat → NodeD) (vs : Nat → Value) : Prop :=
  n = 0 ∨ ∃ blk off, a = some ⟨blk, off, none⟩ ∧ ∀ i, i < n → (D i).addr.length = 20 ∧ w.rangeAt blk (off + i * 22) (nodeCells (D i) (vs i)) ∧ EdgesAt w (vs i) (D i).ne (D i).edges

theorem NodesAt.at {w : World} {a : Option Addr} {n : Nat} {D : Nat → NodeD} {vs : Nat → Value} (h : NodesAt w a n D vs) (h0 : 0 < n) :
    ∃ blk off, a = some ⟨blk, off, none⟩ ∧ ∀ i, i < n → (D i).addr.length = 20 ∧ w.rangeAt blk (off + i * 22) (nodeCells (D i) (vs i)) ∧ EdgesAt w (vs i) (D i).ne (D i).edges := by
  rcases h with h | h
  · omega
  · exact h

theorem node_cells {w : World} {b o : Nat} {d : NodeD} {v : Value} (hl : d.addr.length = 20) (h : w.rangeAt b o (nodeCells d v)) :
    w.rangeAt b o (d.addr.map cell) ∧ w.cell? ⟨b, o + 20, none⟩ = some (.string d.tr) ∧ w.cell? ⟨b, o + 21, none⟩ = some v := by
  refine ⟨fun j u hj => h j u ?_, h 20 _ ?_, h 21 _ ?_⟩
  · unfold nodeCells
    have : j < (d.addr.map cell).length := by
      rcases Nat.lt_or_ge j (d.addr.map cell).length with h | h
      · exact h
      · rw [List.getElem?_eq_none h] at hj; cases hj
    rw [List.getElem?_append_left this, hj]
  · unfold nodeCells
    rw [List.getElem?_append_right (by simp [hl])]
    simp [hl]
  · unfold nodeCells
    rw [List.getElem?_append_right (by simp [hl])]
    simp [hl]

theorem edge_cells {w : World} {b o : Nat} {e : EdgeD} (hl : e.addr.length = 20) (h : w.rangeAt b o (edgeCells e)) :
    w.rangeAt b o (e.addr.map cell) ∧ w.cell? ⟨b, o + 20, none⟩ = some (.int .u8 e.label) ∧ w.cell? ⟨b, o + 21, none⟩ = some (.bool e.init) := by
  refine ⟨fun j u hj => h j u ?_, h 20 _ ?_, h 21 _ ?_⟩
  · unfold edgeCells
    have : j < (e.addr.map cell).length := by
      rcases Nat.lt_or_ge j (e.addr.map cell).length with h | h
      · exact h
      · rw [List.getElem?_eq_none h] at hj; cases hj
    rw [List.getElem?_append_left this, hj]
  · unfold edgeCells
    rw [List.getElem?_append_right (by simp [hl])]
    simp [hl]
  · unfold edgeCells
    rw [List.getElem?_append_right (by simp [hl])]
    simp [hl]

/-- It hands back a bool. -/
def SomeBool (e : Ending) : Prop := ∃ r : Bool, e = .returned (.bool r)
/-- It hands back a bool; where that is false the nodes are few and their edges too. -/
def SmallEnd (n : Nat) (D : Nat → NodeD) (e : Ending) : Prop := ∃ r : Bool, e = .returned (.bool r) ∧ (r = false → n ≤ 4096 ∧ ∀ i, i < n → (D i).ne ≤ 43690)

set_option maxHeartbeats 1000000 in
/-- 'zzNodesTooBig'. -/
theorem big_zz (a : Option Addr) (n cap : Nat) (D : Nat → NodeD) (vs : Nat → Value) (w : World) (hn : n ≤ maxLen) (hA : NodesAt w a n D vs) :
    Calls Try.prog 10 #[.slice a n cap] w fun e w' => SmallEnd n D e ∧ ∃ q, w' = w.drewN q := by
  unfold maxLen at hn
  have HA : Hid (NodesAt w a n D vs) := hA
  clear hA
  by_cases h1 : n ≤ 4096
  · go_enter Try.func10, Try.ntmps10
    go_wp2
    go_loopw [3, 4] (fun vt vi wr => ∃ (k q : Nat) (t : Int), k ≤ n ∧ vi = .int .i64 k ∧ vt = .int .i64 t ∧ 0 ≤ t ∧ t ≤ 1048576 ∧ Hid (wr = w.drewN q) ∧ Hid (∀ i, i < k → (D i).ne ≤ 43690)) (fun _ vi _ => n - (intOf vi).toNat)
    case atStart => exact ⟨0, 0, _, Nat.zero_le _, rfl, rfl, by omega, by omega, rfl, fun i hi => absurd hi (Nat.not_lt_zero _)⟩
    case round =>
      obtain ⟨k, q, t, hk, rfl, rfl, ht0, ht1, HW, HB⟩ := hrel
      by_cases hlt : k < n
      · obtain ⟨blk, off, ha, hc⟩ := HA.out.at (by omega)
        obtain ⟨hl, hr, a2, c2, hv, -, hm2, -⟩ := hc k hlt
        obtain ⟨-, d0, d1⟩ := node_cells hl hr
        have e0 : wr.cell? ⟨blk, off + k * 22 + 20, none⟩ = some (.string (D k).tr) := by rw [HW.out]; exact d0
        have e1 : wr.cell? ⟨blk, off + k * 22 + 21, none⟩ = some (.slice a2 (D k).ne c2) := by rw [HW.out, ← hv]; exact d1
        rw [ha]
        unfold maxLen at hm2
        have HB2 : Hid ((D k).ne ≤ 43690 → ∀ i, i < k + 1 → (D i).ne ≤ 43690) := fun h i hi => by
          by_cases e : i = k
          · subst e; exact h
          · exact HB.out i (by omega)
        clear ha hc hl hr hv d0 d1 HB
        obtain ⟨m, hm⟩ : ∃ m, m = (D k).ne := ⟨_, rfl⟩
        rw [← hm] at e1 hm2 HB2
        clear hm
        generalize (D k).tr = s at e0
        by_cases hs : (s.size : Int) ≤ 1048576
        · by_cases hm : (m : Int) ≤ 1048576
          · by_cases ht : t + (20 + s.size + 24 * m) ≤ 1048576
            · go_wp2_with fail
              go_quiet (fail)
              go_wp2_with fail
              go_roundw
              case rel => exact ⟨k + 1, q + nq, t + (20 + s.size + 24 * m), by omega, by go_num, by go_num, by omega, by omega, by show _ = _; rw [HW.out, World.drewN_drewN], HB2.out (by omega)⟩
              case measure => simp [intOf]; omega
            · go_wp2_with fail
              go_quiet (fail)
              go_wp2_with fail
              go_ret
              exact ⟨⟨true, rfl, fun h => by cases h⟩, q + nq, by rw [HW.out, World.drewN_drewN]⟩
          · go_wp2_with fail
            go_ret
            exact ⟨⟨true, rfl, fun h => by cases h⟩, q, HW.out⟩
        · go_wp2_with fail
          go_ret
          exact ⟨⟨true, rfl, fun h => by cases h⟩, q, HW.out⟩
      · have hkn : k = n := by omega
        subst hkn
        go_wp2_with fail
        go_ret
        exact ⟨⟨false, rfl, fun _ => ⟨h1, HB.out⟩⟩, q, HW.out⟩
  · go_enter Try.func10, Try.ntmps10
    go_wp2
    go_ret
    exact ⟨⟨true, rfl, fun h => by cases h⟩, 0, rfl⟩
end Go.Proofs.Qxb6601491a
