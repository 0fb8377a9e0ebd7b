/-
  (*staticChildren).get, walked: the child for a text, or nil.
-/
import Derived.Test.Qxb6601888aStA
namespace Go.Proofs.Qxb6601888a
open Go.RowKit

theorem Try.zero37 (w : World) : (zeroValue 37).run Try.prog w = .ok (.pointer none) w := by kernel_rfl

theorem cells_two {w : World} {S : Nat} {v0 v1 : Value} {t : TypeId} (h : w.heap[S]? = some (.cells #[v0, v1] t (0, 0))) : w.cell? ⟨S, 0, none⟩ = some v0 ∧ w.cell? ⟨S, 1, none⟩ = some v1 := by
  simp [World.cell?, h]

theorem findAddr_take_none {l : Kids} {t : ByteArray} (h : ∀ k (hk : k < l.length), eqs l[k].1 t = false) : findAddr l t = none := by
  unfold findAddr
  have : l.find? (fun p => eqs p.1 t) = none := by
    rw [List.find?_eq_none]
    intro p hp
    obtain ⟨k, hk, rfl⟩ := List.getElem_of_mem hp
    rw [h k hk]; simp
  rw [this]; rfl

theorem findAddr_at {l : Kids} {t : ByteArray} {k : Nat} (hk : k < l.length) (hno : ∀ j (hj : j < l.length), j < k → eqs l[j].1 t = false) (hyes : eqs l[k].1 t = true) : findAddr l t = some l[k].2 := by
  unfold findAddr
  have : l.find? (fun p => eqs p.1 t) = some l[k] := by
    rw [List.find?_eq_some_iff_getElem]
    exact ⟨hyes, k, hk, rfl, fun j hj => by simpa using hno j (by omega) hj⟩
  rw [this]; rfl

set_option maxHeartbeats 400000 in
/-- 'get' where the map holds the children. -/
theorem get_map (S m clock : Nat) (vf : Value) (es : Array MapEntry) (l : Kids) (t : ByteArray) (w : World) (hS : w.heap[S]? = some (.cells #[vf, .map (some m)] 34 (0, 0))) (hm : w.heap[m]? = some (.map es clock)) (he : Entries es.toList l) :
    Calls Try.prog 37 #[.pointer (some ⟨S, 0, none⟩), .string t] w fun e w' => e = .returned (.pointer (findAddr l t)) ∧ w' = w := by
  obtain ⟨c0, c1⟩ := cells_two hS
  have hnm := fun w => run_neq_map_nil (P := Try.prog) w 32 9 37 (some m) Try.underlying32
  have hlk := run_lookup_kids (P := Try.prog) w Try.underlying32 Try.underlying9 Try.zero37 hm he t false
  have e0 : (if false = true then Value.tuple #[.pointer (findAddr l t), .bool (findAddr l t).isSome] else .pointer (findAddr l t)) = .pointer (findAddr l t) := rfl
  rw [e0] at hlk
  generalize findAddr l t = r at hlk ⊢
  clear hS hm he e0
  go_enter Try.func37, Try.ntmps37
  go_wp2
  go_ret
  exact ⟨rfl, rfl⟩

set_option maxHeartbeats 400000 in
/-- 'get' where the list holds them, and is not empty. -/
theorem get_few (S g n cap : Nat) (l : Kids) (t : ByteArray) (w : World) (hn : l.length = n) (h8 : n ≤ 8) (hS : w.heap[S]? = some (.cells #[.slice (some ⟨g, 0, none⟩) n cap, .map none] 34 (0, 0))) (hg : g < w.heap.size)
    (hc : ∀ k (hk : k < l.length), w.cell? ⟨g, k * 2, none⟩ = some (.string l[k].1) ∧ w.cell? ⟨g, k * 2 + 1, none⟩ = some (.pointer (some l[k].2))) :
    Calls Try.prog 37 #[.pointer (some ⟨S, 0, none⟩), .string t] w fun e w' => e = .returned (.pointer (findAddr l t)) ∧ Below w.heap.size w w' := by
  obtain ⟨c0, c1⟩ := cells_two hS
  have hnm := fun w => run_neq_map_nil (P := Try.prog) w 32 9 37 none Try.underlying32
  have HN : Hid (l.length = n) := hn
  clear hS hn
  go_enter Try.func37, Try.ntmps37
  go_wp2
  go_loopw [23] (fun vk wr => ∃ k : Nat, k ≤ n ∧ vk = .int .i64 k ∧ Below w.heap.size w wr ∧ (∀ j (hj : j < l.length), j < k → eqs l[j].1 t = false)) (fun vk _ => n - (intOf vk).toNat)
  case atStart => exact ⟨0, Nat.zero_le _, rfl, Below.refl _ _, fun j _ h => absurd h (Nat.not_lt_zero _)⟩
  case round =>
    obtain ⟨k, hk, rfl, hb, hno⟩ := hrel
    have HNO : Hid (∀ j (hj : j < l.length), j < k → eqs l[j].1 t = false) := hno
    clear hno
    by_cases hlt : k < n
    · have hkl : k < l.length := by rw [HN.out]; exact hlt
      obtain ⟨d0, d1⟩ := hc k hkl
      rw [← hb.cell (p := ⟨g, k * 2, none⟩) hg] at d0
      rw [← hb.cell (p := ⟨g, k * 2 + 1, none⟩) hg] at d1
      obtain ⟨x, hx⟩ : ∃ x, x = l[k].1 := ⟨_, rfl⟩
      obtain ⟨a, ha⟩ : ∃ a, a = l[k].2 := ⟨_, rfl⟩
      rw [← hx] at d0
      rw [← ha] at d1
      have HX : Hid (x = l[k].1) := hx
      have HA : Hid (a = l[k].2) := ha
      clear hc hx ha c0 c1 hnm
      cases hq : eqs x t with
      | true =>
        have HF : Hid (findAddr l t = some a) := by
          show _ = _
          rw [HA.out]; exact findAddr_at hkl HNO.out (by rw [← HX.out]; exact hq)
        unfold eqs at hq
        go_wp2
        go_ret
        exact ⟨by rw [HF.out]; rfl, hb.alloc hb.size _⟩
      | false =>
        have HN2 : Hid (∀ j (hj : j < l.length), j < k + 1 → eqs l[j].1 t = false) := fun j hj h => by
          by_cases e : j = k
          · subst e; rw [← HX.out]; exact hq
          · exact HNO.out j hj (by omega)
        unfold eqs at hq
        go_wp2
        go_roundw
        case rel => exact ⟨k + 1, by omega, by go_num, hb.alloc hb.size _, HN2.out⟩
        case measure => simp [intOf]; omega
    · have HF : Hid (findAddr l t = none) := findAddr_take_none fun k' hk' => HNO.out k' hk' (by rw [HN.out] at hk'; omega)
      go_wp2
      go_ret
      exact ⟨by rw [HF.out]; rfl, hb⟩

set_option maxHeartbeats 400000 in
/-- 'get' where there is no child yet. -/
theorem get_none (S : Nat) (t : ByteArray) (w : World) (a : Option Addr) (cap : Nat) (hS : w.heap[S]? = some (.cells #[.slice a 0 cap, .map none] 34 (0, 0))) :
    Calls Try.prog 37 #[.pointer (some ⟨S, 0, none⟩), .string t] w fun e w' => e = .returned (.pointer none) ∧ w' = w := by
  obtain ⟨c0, c1⟩ := cells_two hS
  have hnm := fun w => run_neq_map_nil (P := Try.prog) w 32 9 37 none Try.underlying32
  clear hS
  go_enter Try.func37, Try.ntmps37
  go_wp2
  refine wp_loop_rounds 1 ?_
  rw [rounds_succ]
  go_wp2
  go_ret
  exact ⟨rfl, rfl⟩

theorem few_cells {w : World} {base g n cap : Nat} {l : Kids} (hn : l.length = n) (h : w.ownsRow base 68 2 (.slice (some ⟨g, 0, none⟩) n cap) n (fewCells l)) (k : Nat) (hk : k < l.length) :
    w.cell? ⟨g, k * 2, none⟩ = some (.string l[k].1) ∧ w.cell? ⟨g, k * 2 + 1, none⟩ = some (.pointer (some l[k].2)) := by
  obtain ⟨a, b⟩ := fewCells_at l k hk
  exact ⟨(h.cellAt (k * 2) (by omega)).trans a, (h.cellAt (k * 2 + 1) (by omega)).trans b⟩

/-- '(*staticChildren).get': the child for the text, or nil; all that lay there is as it was. -/
theorem get_any (base S : Nat) (l : Kids) (t : ByteArray) (w : World) (h : St w base S l) :
    Calls Try.prog 37 #[.pointer (some ⟨S, 0, none⟩), .string t] w fun e w' => e = .returned (.pointer (findAddr l t)) ∧ Below w.heap.size w w' := by
  obtain ⟨vf, vm, hS, h2⟩ := h
  rcases h2 with ⟨h8, rfl, hrow⟩ | ⟨-, rfl, m, es, c, rfl, -, hm, he⟩
  · rcases hrow.2 with ⟨rfl, h0⟩ | ⟨g, cap, cur, rfl, -, hg, -⟩
    · have hl : l = [] := List.eq_nil_of_length_eq_zero h0
      subst hl
      refine (get_none S t w none 0 hS).mono ?_
      rintro e w' ⟨rfl, rfl⟩
      exact ⟨rfl, Below.refl _ _⟩
    · exact get_few S g l.length cap l t w rfl h8 hS (Array.getElem?_eq_some_iff.1 hg).1 (few_cells rfl hrow)
  · refine (get_map S m c _ es l t w hS hm he).mono ?_
    rintro e w' ⟨rfl, rfl⟩
    exact ⟨rfl, Below.refl _ _⟩

/-- 'ZZStaticGet': the same. -/
theorem get_zz (base S : Nat) (l : Kids) (t : ByteArray) (w : World) (h : St w base S l) :
    Calls Try.prog 20 #[.pointer (some ⟨S, 0, none⟩), .string t] w fun e w' => e = .returned (.pointer (findAddr l t)) ∧ Below w.heap.size w w' := by
  have hc := get_any base S l t w h
  clear h
  go_enter Try.func20, Try.ntmps20
  go_wp2_with fail
  refine hc.mono ?_
  rintro e w' ⟨rfl, hb⟩
  go_wp2_with fail
  go_ret
  exact ⟨rfl, hb⟩
end Go.Proofs.Qxb6601888a
