/-
  THE RING, SORTED.
-/
import Derived.Test.Qxb6601491aRgI
import Derived.Test.Qxb6601491aShelfG
namespace Go.Proofs.Qxb6601491a
open Go.RowKit Go.Sort Go.Lib
open Go.Extern.Stop (cell)

attribute [local go_sem ↓] ld34

set_option maxHeartbeats 1000000 in
set_option maxRecDepth 100000 in
/-- The closure. -/
theorem closure_zz (n gb ab ao : Nat) (A : Nat → List UInt8) (W : World) (x y : Nat) (hx : x < n) (hy : y < n) (hc : W.cell? ⟨gb, 0, none⟩ = some (.slice (some ⟨ab, ao, none⟩) n n))
    (hA : ∀ i, i < n → (A i).length = 20 ∧ W.rangeAt ab (ao + i * 20) ((A i).map cell)) :
    Calls Try.prog 49 #[.int .i64 x, .int .i64 y, .pointer (some ⟨gb, 0, none⟩)] W fun e w' => e = .returned (.int .i64 (cmpN (num (A x)) (num (A y)))) ∧ ∃ q os, w' = grow (W.drewN q) os := by
  have k1 : (vld 34 ⟨ab, ao + x * 20, none⟩).run Try.prog W.drew = .ok (addrV (A x)) W.drew := load34 (w := W.drew) (hA x hx).1 (hA x hx).2
  have k2 : (vld 34 ⟨ab, ao + y * 20, none⟩).run Try.prog W.drew = .ok (addrV (A y)) W.drew := load34 (w := W.drew) (hA y hy).1 (hA y hy).2
  have c50 := cmp_zz (A x) (A y) (hA x hx).1 (hA y hy).1 W.drew
  clear hA
  generalize cmpN (num (A x)) (num (A y)) = r at c50 ⊢
  go_enter Try.func49, Try.ntmps49
  go_wp2_with fail
  go_region_with (go_at_call 50; refine c50.mono ?_; rintro e w2 ⟨rfl, q, os, rfl⟩)
  all_goals
    go_wp2_with fail
    go_ret
    exact ⟨rfl, _, _, rfl⟩

theorem cmpN_lt (x y : Nat) : (cmpN x y < 0) ↔ x < y := by
  unfold cmpN
  split
  · simp [*]
  · split
    · simp; omega
    · simp; omega

theorem heap_putF {α : Type} [Inhabited α] {enc : α → Value} {w : World} {g n : Nat} {os : Array Obj} {cur : Array Value} {e : TypeId} {fr : Nat × Nat} (d : Array α) (hb : w.heap[g]? = some (.cells cur e fr)) :
    (sortWorld enc w g 0 n d os).heap[g]? = some (.cells (putCells enc 0 d cur) e fr) := by
  have hg : g < w.heap.size := (Array.getElem?_eq_some_iff.1 hb).1
  unfold sortWorld
  rw [heap_grow_old _ _ (by simpa using hg)]
  simp [putRow, mapBlock, Sort.ahead, Array.getElem?_modify, hb, onCells]

theorem grownBy_putF {α : Type} [Inhabited α] {enc : α → Value} {w : World} {g n : Nat} {os : Array Obj} (d : Array α) : w.grownBy (sortWorld enc w g 0 n d os) (some g) := by
  unfold sortWorld
  refine ⟨rfl, rfl, rfl, by simp, fun k hk hne => ?_⟩
  rw [heap_grow_old _ _ (by simpa using hk)]
  have : g ≠ k := fun e => hne (by rw [e])
  simp [putRow, mapBlock, Sort.ahead, Array.getElem?_modify, this]

/-- THE SORT OF THE RING. -/
theorem ring_sort (m gb ab ao blk : Nat) (cur : Array Value) (A : Nat → List UInt8) (w : World) (hm : m < 4096) (hblk : w.heap[blk]? = some (.cells cur 3 (0, 0))) (hcur : cur.size = m + 1) (hrow : ∀ j, j < m + 1 → cur[j]? = some (.int .i64 j))
    (hgb : gb ≠ blk) (hab : ab ≠ blk) (hc : w.cell? ⟨gb, 0, none⟩ = some (.slice (some ⟨ab, ao, none⟩) (m + 1) (m + 1)))
    (hA : ∀ i, i < m + 1 → (A i).length = 20 ∧ w.rangeAt ab (ao + i * 20) ((A i).map cell)) (hd : ∀ i j, i < m + 1 → j < m + 1 → num (A i) = num (A j) → i = j) :
    Calls Try.prog 48 #[.slice (some ⟨blk, 0, none⟩) (m + 1) (m + 1), .func (.func 49) #[] #[.pointer (some ⟨gb, 0, none⟩)]] w fun e w' => e = .returned (.tuple #[]) ∧
      (∃ r : Nat → Nat, Ring (m + 1) (256 ^ 20) (fun j => num (A j)) r ∧ ((List.range (m + 1)).map r).Perm (List.range (m + 1)) ∧ ∀ j, j < m + 1 → w'.cell? ⟨blk, j, none⟩ = some (.int .i64 (r j))) ∧ w.grownBy w' (some blk) := by
  have hlt : blk < w.heap.size := (Array.getElem?_eq_some_iff.1 hblk).1
  have hsz : (Array.ofFn (n := m + 1) id).size = m + 1 := by simp
  have hget : ∀ j (hj : j < m + 1), (Array.ofFn (n := m + 1) id)[j]! = ⟨j, hj⟩ := fun j hj => by
    rw [getElem!_pos _ j (by simpa using hj)]; simp
  have keep : ∀ {W : World}, w.grownBy W (some blk) → ∀ {b k : Nat} {v : Value}, b ≠ blk → w.cell? ⟨b, k, none⟩ = some v → W.cell? ⟨b, k, none⟩ = some v := fun {W} hW {b k v} hne h =>
    (World.cell?_of_block (a := ⟨b, k, none⟩) (hW.block b (World.block_lt_of_cell? w _ h) (fun e => hne (by cases e; rfl)))).trans h
  have hcmp : CmpLays1 Try.prog 49 #[.pointer (some ⟨gb, 0, none⟩)] (fun k : Fin (m + 1) => Value.int .i64 (k.val : Int)) (fun x y => cmpN (num (A x.val)) (num (A y.val))) blk 0 (Array.ofFn (n := m + 1) id).size w := fun mm os dk _ x y => by
    have hW : w.grownBy (sortWorld (fun k : Fin (m + 1) => Value.int .i64 (k.val : Int)) w blk 0 mm dk os) (some blk) := grownBy_putF dk
    exact closure_zz (m + 1) gb ab ao A _ x.val y.val x.isLt y.isLt (keep hW hgb hc) (fun i hi => ⟨(hA i hi).1, fun j v hv => keep hW hab ((hA i hi).2 j v hv)⟩)
  have hH : Holds (fun k : Fin (m + 1) => Value.int .i64 (k.val : Int)) w blk 0 (Array.ofFn (n := m + 1) id) := fun j hj => by
    have hj' : j < m + 1 := by simpa using hj
    rw [hget j hj', Nat.zero_add]
    exact ⟨by simp only [World.cell?, hblk]; simpa using hrow j hj', by simp [World.frozen?, hblk]⟩
  have hO : SWO (ltOf fun x y : Fin (m + 1) => cmpN (num (A x.val)) (num (A y.val))) := by
    have e : ∀ x y : Fin (m + 1), ltOf (fun x y : Fin (m + 1) => cmpN (num (A x.val)) (num (A y.val))) x y = decide (num (A x.val) < num (A y.val)) := fun x y => by
      unfold ltOf
      rw [decide_eq_decide]; exact cmpN_lt _ _
    refine ⟨fun x => ?_, fun x y z h1 h2 => ?_, fun x y z h1 h2 => ?_⟩
    · rw [e]; simp
    · rw [e] at h1 h2 ⊢; simp at h1 h2 ⊢; omega
    · rw [e] at h1 h2 ⊢; simp at h1 h2 ⊢; omega
  have key := Any.slices_SortFunc Try.sortF (fun k : Fin (m + 1) => Value.int .i64 (k.val : Int)) (fun _ => rfl) (fun x y => cmpN (num (A x.val)) (num (A y.val))) hO 49 #[.pointer (some ⟨gb, 0, none⟩)] blk 0 (m + 1) (Array.ofFn (n := m + 1) id) w
    (enters_of Try.func49 (by kernel_rfl) rfl) hcmp hH hlt (by rw [hsz]; omega)
  rw [hsz] at key
  refine Calls.mono (show Calls Try.prog 48 _ _ _ from key) ?_
  rintro e w' ⟨rfl, d', nn, os, hp, hs, rfl⟩
  obtain ⟨p1, -, p3⟩ := hp
  rw [hsz] at p1
  have x1 : d'.extract 0 (m + 1) = d' := by
    have := Array.extract_size (xs := d')
    rwa [p1] at this
  have x2 : (Array.ofFn (n := m + 1) (id : Fin (m + 1) → Fin (m + 1))).extract 0 (m + 1) = Array.ofFn (n := m + 1) id := by
    have := Array.extract_size (xs := Array.ofFn (n := m + 1) (id : Fin (m + 1) → Fin (m + 1)))
    rwa [hsz] at this
  rw [x1, x2] at p3
  have nod : d'.toList.Nodup := by
    refine p3.symm.nodup ?_
    rw [Array.toList_ofFn]
    refine List.pairwise_iff_getElem.2 fun i j hi hj hij e => ?_
    simp only [List.getElem_ofFn, id] at e
    have := congrArg Fin.val e
    simp only at this
    omega
  have inj : ∀ i j, i < m + 1 → j < m + 1 → d'[i]! = d'[j]! → i = j := fun i j hi hj h => by
    rw [getElem!_pos _ i (by omega), getElem!_pos _ j (by omega)] at h
    rcases Nat.lt_trichotomy i j with l | l | l
    · exact absurd (by rw [Array.getElem_toList, Array.getElem_toList]; exact h) (List.pairwise_iff_getElem.1 nod i j _ _ l)
    · exact l
    · exact absurd (by rw [Array.getElem_toList, Array.getElem_toList]; exact h.symm) (List.pairwise_iff_getElem.1 nod j i _ _ l)
  refine ⟨rfl, ⟨fun j => (d'[j]!).val, ⟨fun p _ => (d'[p]!).isLt, fun p q hpq hq => ?_, fun j hj => ?_, fun j hj => ?_⟩, ?_, fun j hj => ?_⟩, grownBy_putF d'⟩
  · have h := hs p q (Nat.zero_le _) hpq hq
    unfold ltOf at h
    have h' : ¬ (num (A (d'[q]!).val) < num (A (d'[p]!).val)) := fun hh => by
      have := decide_eq_false_iff_not.1 h
      exact this ((cmpN_lt _ _).2 hh)
    have hne : num (A (d'[p]!).val) ≠ num (A (d'[q]!).val) := fun hh => by
      have := inj p q (by omega) hq (Fin.ext (hd _ _ (d'[p]!).isLt (d'[q]!).isLt hh))
      omega
    show num (A (d'[p]!).val) < num (A (d'[q]!).val)
    omega
  · have hmem : (⟨j, hj⟩ : Fin (m + 1)) ∈ d'.toList := p3.symm.subset (by rw [Array.toList_ofFn]; exact List.mem_ofFn.2 ⟨⟨j, hj⟩, rfl⟩)
    obtain ⟨p, hp, e⟩ := List.mem_iff_getElem.1 hmem
    have hp' : p < d'.size := by simpa using hp
    refine ⟨p, by omega, ?_⟩
    show (d'[p]!).val = j
    rw [getElem!_pos _ p hp']
    have : d'[p] = ⟨j, hj⟩ := by simpa using e
    rw [this]
  · have := num_lt (A j)
    rwa [(hA j hj).1] at this
  · have q := p3.map Fin.val
    rw [Array.toList_ofFn] at q
    have e1 : (List.ofFn (id : Fin (m + 1) → Fin (m + 1))).map Fin.val = List.range (m + 1) := by
      apply List.ext_getElem
      · simp
      · intro i h1 h2; rw [List.getElem_map, List.getElem_ofFn, List.getElem_range]; rfl
    have e2 : d'.toList.map Fin.val = (List.range (m + 1)).map fun j => (d'[j]!).val := by
      apply List.ext_getElem
      · simp [p1]
      · intro i h1 h2
        have hi : i < d'.size := by simpa using h1
        rw [List.getElem_map, List.getElem_map, Array.getElem_toList, List.getElem_range, getElem!_pos d' i hi]
    rw [e1, e2] at q
    exact q
  · simp only [World.cell?, heap_putF d' hblk]
    simp [putCells, hcur, hj, p1]
end Go.Proofs.Qxb6601491a
