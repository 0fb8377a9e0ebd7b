/-
  THE RING's ARGUMENTS IN MEMORY; HER GUARDS, WALKED.
-/
import Derived.Test.Qxb6601491aRgL
namespace Go.Proofs.Qxb6601491a
open Go.RowKit
open Go.Extern.Stop (cell)

/-- A row of addresses. -/
def AdrAt (w : World) (a : Option Addr) (n : Nat) (A : Nat → List UInt8) : Prop :=
  n = 0 ∨ ∃ blk off, a = some ⟨blk, off, none⟩ ∧ ∀ i, i < n → (A i).length = 20 ∧ w.rangeAt blk (off + i * 20) ((A i).map cell)

/-- A list of indices. -/
def LstAt (w : World) (v : Value) (zs : List Int) : Prop :=
  ∃ a c, v = .slice a zs.length c ∧ zs.length ≤ maxLen ∧ (a = none → c = 0) ∧ (zs = [] ∨ ∃ blk off, a = some ⟨blk, off, none⟩ ∧ ∀ k (hk : k < zs.length), w.cell? ⟨blk, off + k, none⟩ = some (.int .i64 zs[k]))

/-- A row of lists. -/
def LstsAt (w : World) (a : Option Addr) (m : Nat) (L : Nat → List Int) (vs : Nat → Value) : Prop :=
  m = 0 ∨ ∃ blk off, a = some ⟨blk, off, none⟩ ∧ ∀ i, i < m → w.cell? ⟨blk, off + i, none⟩ = some (vs i) ∧ LstAt w (vs i) (L i)

section
variable {w w' : World} {a : Option Addr} {n m : Nat} {A : Nat → List UInt8} {L : Nat → List Int} {vs : Nat → Value}

theorem AdrAt.at (h : AdrAt w a n A) (h0 : 0 < n) : ∃ blk off, a = some ⟨blk, off, none⟩ ∧ ∀ i, i < n → (A i).length = 20 ∧ w.rangeAt blk (off + i * 20) ((A i).map cell) := by
  rcases h with h | h
  · omega
  · exact h

theorem LstsAt.at (h : LstsAt w a m L vs) (h0 : 0 < m) : ∃ blk off, a = some ⟨blk, off, none⟩ ∧ ∀ i, i < m → w.cell? ⟨blk, off + i, none⟩ = some (vs i) ∧ LstAt w (vs i) (L i) := by
  rcases h with h | h
  · omega
  · exact h

theorem AdrAt.get {blk off : Nat} (h : AdrAt w (some ⟨blk, off, none⟩) n A) (i : Nat) (hi : i < n) : (A i).length = 20 ∧ w.rangeAt blk (off + i * 20) ((A i).map cell) := by
  obtain ⟨_, _, e, h⟩ := h.at (by omega)
  cases e
  exact h i hi

theorem LstsAt.get {blk off : Nat} (h : LstsAt w (some ⟨blk, off, none⟩) m L vs) (i : Nat) (hi : i < m) : w.cell? ⟨blk, off + i, none⟩ = some (vs i) ∧ LstAt w (vs i) (L i) := by
  obtain ⟨_, _, e, h⟩ := h.at (by omega)
  cases e
  exact h i hi

theorem AdrAt.below (h : AdrAt w a n A) (hb : Below w.heap.size w w') : AdrAt w' a n A := by
  rcases h with h | ⟨blk, off, ha, h⟩
  · exact .inl h
  · exact .inr ⟨blk, off, ha, fun i hi => ⟨(h i hi).1, rangeAt_below (h i hi).2 hb⟩⟩

theorem cell_below {b k : Nat} {v : Value} (h : w.cell? ⟨b, k, none⟩ = some v) (hb : Below w.heap.size w w') : w'.cell? ⟨b, k, none⟩ = some v :=
  (hb.cell (p := ⟨b, k, none⟩) (World.block_lt_of_cell? w _ h)).trans h

theorem LstAt.below {v : Value} {zs : List Int} (h : LstAt w v zs) (hb : Below w.heap.size w w') : LstAt w' v zs := by
  obtain ⟨a, c, h1, h2, h3, h4⟩ := h
  refine ⟨a, c, h1, h2, h3, ?_⟩
  rcases h4 with h4 | ⟨blk, off, ha, h4⟩
  · exact .inl h4
  · exact .inr ⟨blk, off, ha, fun k hk => cell_below (h4 k hk) hb⟩

theorem LstsAt.below (h : LstsAt w a m L vs) (hb : Below w.heap.size w w') : LstsAt w' a m L vs := by
  rcases h with h | ⟨blk, off, ha, h⟩
  · exact .inl h
  · exact .inr ⟨blk, off, ha, fun i hi => ⟨cell_below (h i hi).1 hb, (h i hi).2.below hb⟩⟩
end

set_option maxHeartbeats 1000000 in
/-- 'zzBytes..'. -/
theorem bytes_rg (a : Option Addr) (n cap : Nat) (b : Option Addr) (m capb : Nat) (L : Nat → List Int) (vs : Nat → Value) (w : World) (hn : n ≤ maxLen) (hm : m ≤ maxLen) (hL : LstsAt w b m L vs) :
    Calls Try.prog 20 #[.slice a n cap, .slice b m capb] w fun e w' => SomeBool e ∧ w' = w := by
  unfold maxLen at hn hm
  have HL : Hid (LstsAt w b m L vs) := hL
  clear hL
  by_cases h1 : n ≤ 1048576
  · go_enter Try.func20, Try.ntmps20
    go_wp2_with fail
    go_loop [5, 6] (fun vt vi => ∃ (k : Nat) (t : Int), k ≤ n ∧ vi = .int .i64 k ∧ vt = .int .i64 t ∧ 0 ≤ t ∧ t ≤ 1048576) (fun _ vi => n - (intOf vi).toNat)
    case atStart => exact ⟨0, n, Nat.zero_le _, rfl, by go_num, by omega, by omega⟩
    case round =>
      obtain ⟨k, t, hk, rfl, rfl, ht0, ht1⟩ := hrel
      by_cases hlt : k < n
      · by_cases h20 : t + 20 ≤ 1048576
        · go_wp2_with fail
          go_round
          case rel => exact ⟨k + 1, t + 20, by omega, by go_num, by go_num, by omega, by omega⟩
          case measure => simp [intOf]; omega
        · go_wp2_with fail
          go_ret
          exact ⟨⟨false, rfl⟩, rfl⟩
      · by_cases h2 : m ≤ 1048576
        · by_cases h3 : t + m ≤ 1048576
          · go_wp2_with fail
            go_loop [5, 7] (fun vt vi => ∃ (j : Nat) (u : Int), j ≤ m ∧ vi = .int .i64 j ∧ vt = .int .i64 u ∧ 0 ≤ u ∧ u ≤ 1048576) (fun _ vi => m - (intOf vi).toNat)
            case atStart => exact ⟨0, t + m, Nat.zero_le _, rfl, by go_num, by omega, by omega⟩
            case round =>
              obtain ⟨j, u, hj, rfl, rfl, hu0, hu1⟩ := hrel
              by_cases hjm : j < m
              · obtain ⟨blk, off, hb, hc⟩ := HL.out.at (by omega)
                obtain ⟨d0, x, c, hv, hml, -⟩ := hc j hjm
                rw [hv] at d0
                rw [hb]
                unfold maxLen at hml
                clear hb hc hv
                generalize (L j).length = z at d0 hml
                by_cases hz : (z : Int) ≤ 1048576
                · by_cases hu2 : u + z ≤ 1048576
                  · go_wp2_with fail
                    go_round
                    case rel => exact ⟨j + 1, u + z, by omega, by go_num, by go_num, by omega, by omega⟩
                    case measure => simp [intOf]; omega
                  · go_wp2_with fail
                    go_ret
                    exact ⟨⟨false, rfl⟩, rfl⟩
                · go_wp2_with fail
                  go_ret
                  exact ⟨⟨false, rfl⟩, rfl⟩
              · go_wp2_with fail
                go_ret
                exact ⟨⟨true, rfl⟩, rfl⟩
          · go_wp2_with fail
            go_ret
            exact ⟨⟨false, rfl⟩, rfl⟩
        · go_wp2_with fail
          go_ret
          exact ⟨⟨false, rfl⟩, rfl⟩
  · go_enter Try.func20, Try.ntmps20
    go_wp2_with fail
    go_ret
    exact ⟨⟨false, rfl⟩, rfl⟩

/-- It hands back a bool; where that is false the rows are short. -/
def SmallRg (n m : Nat) (L : Nat → List Int) (e : Ending) : Prop := ∃ r : Bool, e = .returned (.bool r) ∧ (r = false → n ≤ 4096 ∧ m ≤ 4096 ∧ ∀ i, i < m → (L i).length ≤ 131072)

set_option maxHeartbeats 1000000 in
/-- 'zzRingTooBig'. -/
theorem big_rg (a : Option Addr) (n cap : Nat) (b : Option Addr) (m capb : Nat) (L : Nat → List Int) (vs : Nat → Value) (w : World) (hn : n ≤ maxLen) (hm : m ≤ maxLen) (hL : LstsAt w b m L vs) :
    Calls Try.prog 21 #[.slice a n cap, .slice b m capb] w fun e w' => SmallRg n m L e ∧ w' = w := by
  unfold maxLen at hn hm
  have HL : Hid (LstsAt w b m L vs) := hL
  clear hL
  by_cases h1 : n ≤ 4096
  · by_cases h2 : m ≤ 4096
    · go_enter Try.func21, Try.ntmps21
      go_wp2_with fail
      go_loop [5, 6] (fun vt vi => ∃ (k : Nat) (t : Int), k ≤ m ∧ vi = .int .i64 k ∧ vt = .int .i64 t ∧ 0 ≤ t ∧ t ≤ 1048576 ∧ Hid (∀ i, i < k → (L i).length ≤ 131072)) (fun _ vi => m - (intOf vi).toNat)
      case atStart => exact ⟨0, 20 * n, Nat.zero_le _, rfl, by go_num, by omega, by omega, fun i hi => absurd hi (Nat.not_lt_zero _)⟩
      case round =>
        obtain ⟨j, u, hj, rfl, rfl, hu0, hu1, HB⟩ := hrel
        by_cases hjm : j < m
        · obtain ⟨blk, off, hb, hc⟩ := HL.out.at (by omega)
          obtain ⟨d0, x, c, hv, hml, -⟩ := hc j hjm
          rw [hv] at d0
          rw [hb]
          unfold maxLen at hml
          have HB2 : Hid ((L j).length ≤ 131072 → ∀ i, i < j + 1 → (L i).length ≤ 131072) := fun h i hi => by
            by_cases e : i = j
            · subst e; exact h
            · exact HB.out i (by omega)
          clear hb hc hv HB
          obtain ⟨z, hz⟩ : ∃ z, z = (L j).length := ⟨_, rfl⟩
          rw [← hz] at d0 hml HB2
          clear hz
          by_cases hz : (z : Int) ≤ 1048576
          · by_cases hu2 : u + 8 * z ≤ 1048576
            · go_wp2_with fail
              go_round
              case rel => exact ⟨j + 1, u + 8 * z, by omega, by go_num, by go_num, by omega, by omega, HB2.out (by omega)⟩
              case measure => simp [intOf]; omega
            · go_wp2_with fail
              go_ret
              exact ⟨⟨true, rfl, fun h => by cases h⟩, rfl⟩
          · go_wp2_with fail
            go_ret
            exact ⟨⟨true, rfl, fun h => by cases h⟩, rfl⟩
        · have hjk : j = m := by omega
          subst hjk
          go_wp2_with fail
          go_ret
          exact ⟨⟨false, rfl, fun _ => ⟨h1, h2, HB.out⟩⟩, rfl⟩
    · go_enter Try.func21, Try.ntmps21
      go_wp2_with fail
      go_ret
      exact ⟨⟨true, rfl, fun h => by cases h⟩, rfl⟩
  · go_enter Try.func21, Try.ntmps21
    go_wp2_with fail
    go_ret
    exact ⟨⟨true, rfl, fun h => by cases h⟩, rfl⟩
end Go.Proofs.Qxb6601491a
