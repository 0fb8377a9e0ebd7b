/-
  THE GUARDS OF THE staticChildren LAWS, WALKED: zzTextsFit, zzBytes: a bool, the world as it was.
-/
import Derived.Test.Qxb6601888aProg
import Derived.WalkKit
import Derived.WalkSpells
import Derived.WalkLawsBesides
namespace Go.Proofs.Qxb6601888a
open Go.RowKit

/-- A slice of strings whose elements lie at hand (whatever its address where it has none). -/
def Strs (w : World) (a : Option Addr) (n : Nat) (G : Nat → ByteArray) : Prop :=
  n = 0 ∨ ∃ blk off, a = some ⟨blk, off, none⟩ ∧ ∀ t, t < n → w.cell? ⟨blk, off + t, none⟩ = some (.string (G t))

/-- It hands back a bool. -/
def SomeBool (e : Ending) : Prop := ∃ r : Bool, e = .returned (.bool r)
/-- It hands back a bool; where that is true both lists are short. -/
def FitEnd (n m : Nat) (e : Ending) : Prop := ∃ r : Bool, e = .returned (.bool r) ∧ (r = true → n ≤ 4096 ∧ m ≤ 4096)

theorem strs_at {w : World} {a : Option Addr} {n : Nat} {G : Nat → ByteArray} (h : Strs w a n G) (hn : 0 < n) : ∃ blk off, a = some ⟨blk, off, none⟩ ∧ ∀ t, t < n → w.cell? ⟨blk, off + t, none⟩ = some (.string (G t)) := by
  rcases h with h | h
  · omega
  · exact h

set_option maxHeartbeats 1000000 in
theorem fit_in (a b : Option Addr) (n m ca cb : Nat) (G K : Nat → ByteArray) (w : World) (h1 : n ≤ 4096) (h2 : m ≤ 4096) (hA : Strs w a n G) (hB : Strs w b m K) :
    Calls Try.prog 15 #[.slice a n ca, .slice b m cb] w fun e w' => SomeBool e ∧ w' = w := by
  have HA : Hid (Strs w a n G) := hA
  have HB : Hid (Strs w b m K) := hB
  clear hA hB
  go_enter Try.func15, Try.ntmps15
  go_wp2
  go_loop [5, 6] (fun vt vi => ∃ (k : Nat) (t : Int), k ≤ n ∧ vi = .int .i64 k ∧ vt = .int .i64 t ∧ 0 ≤ t ∧ t ≤ 1048576) (fun _ vi => n - (intOf vi).toNat)
  case atStart => exact ⟨0, _, Nat.zero_le _, rfl, rfl, by omega, by omega⟩
  case round =>
    obtain ⟨k, t, hk, rfl, rfl, ht0, ht1⟩ := hrel
    by_cases hlt : k < n
    · obtain ⟨blk, off, ha, hc⟩ := strs_at HA.out (by omega)
      have hck := hc k hlt
      rw [ha]
      clear ha hc
      by_cases hs : (1048576 : Int) - t < (G k).size
      · go_wp2
        go_ret
        exact ⟨⟨false, rfl⟩, rfl⟩
      · go_wp2
        go_round
        case rel => exact ⟨k + 1, t + (G k).size, by omega, by go_num, rfl, by omega, by omega⟩
        case measure => simp [intOf]; omega
    · have hge : n ≤ k := by omega
      clear hlt
      go_wp2
      go_loop [5, 7] (fun vt vi => ∃ (j : Nat) (u : Int), j ≤ m ∧ vi = .int .i64 j ∧ vt = .int .i64 u ∧ 0 ≤ u ∧ u ≤ 1048576) (fun _ vi => m - (intOf vi).toNat)
      case atStart => exact ⟨0, _, Nat.zero_le _, rfl, rfl, by omega, by omega⟩
      case round =>
        obtain ⟨j, u, hj, rfl, rfl, hu0, hu1⟩ := hrel
        by_cases hlt : j < m
        · obtain ⟨blk, off, hb, hc⟩ := strs_at HB.out (by omega)
          have hcj := hc j hlt
          rw [hb]
          clear hb hc
          by_cases hs : (1048576 : Int) - u < (K j).size
          · go_wp2
            go_ret
            exact ⟨⟨false, rfl⟩, rfl⟩
          · go_wp2
            go_round
            case rel => exact ⟨j + 1, u + (K j).size, by omega, by go_num, rfl, by omega, by omega⟩
            case measure => simp [intOf]; omega
        · go_wp2
          go_ret
          exact ⟨⟨true, rfl⟩, rfl⟩

set_option maxHeartbeats 400000 in
/-- 'zzTextsFit': a bool; where it says yes both lists are short. -/
theorem fit_zz (a b : Option Addr) (n m ca cb : Nat) (G K : Nat → ByteArray) (w : World) (hn : n ≤ maxLen) (hm : m ≤ maxLen) (hA : Strs w a n G) (hB : Strs w b m K) :
    Calls Try.prog 15 #[.slice a n ca, .slice b m cb] w fun e w' => FitEnd n m e ∧ w' = w := by
  unfold maxLen at hn hm
  by_cases h1 : n ≤ 4096
  · by_cases h2 : m ≤ 4096
    · refine (fit_in a b n m ca cb G K w h1 h2 hA hB).mono ?_
      rintro e w' ⟨⟨r, rfl⟩, rfl⟩
      exact ⟨⟨r, rfl, fun _ => ⟨h1, h2⟩⟩, rfl⟩
    · clear hA hB
      go_enter Try.func15, Try.ntmps15
      go_wp2
      go_ret
      exact ⟨⟨false, rfl, fun h => by cases h⟩, rfl⟩
  · clear hA hB
    go_enter Try.func15, Try.ntmps15
    go_wp2
    go_ret
    exact ⟨⟨false, rfl, fun h => by cases h⟩, rfl⟩

set_option maxHeartbeats 1000000 in
/-- 'zzBytes' of two lists: a bool. -/
theorem bytes_zz (a b : Option Addr) (n m ca cb : Nat) (G K : Nat → ByteArray) (w : World) (hn : n ≤ maxLen) (hm : m ≤ maxLen) (hA : Strs w a n G) (hB : Strs w b m K) :
    Calls Try.prog 14 #[.slice a n ca, .slice b m cb] w fun e w' => SomeBool e ∧ w' = w := by
  unfold maxLen at hn hm
  have HA : Hid (Strs w a n G) := hA
  have HB : Hid (Strs w b m K) := hB
  clear hA hB
  by_cases h1 : n ≤ 1048576
  · go_enter Try.func14, Try.ntmps14
    go_wp2
    go_loop [5, 6] (fun vt vi => ∃ (k : Nat) (t : Int), k ≤ n ∧ vi = .int .i64 k ∧ vt = .int .i64 t ∧ 0 ≤ t ∧ t ≤ 1048576) (fun _ vi => n - (intOf vi).toNat)
    case atStart => exact ⟨0, _, Nat.zero_le _, rfl, rfl, by omega, by omega⟩
    case round =>
      obtain ⟨k, t, hk, rfl, rfl, ht0, ht1⟩ := hrel
      by_cases hlt : k < n
      · obtain ⟨blk, off, ha, hc⟩ := strs_at HA.out (by omega)
        have hck := hc k hlt
        rw [ha]
        clear ha hc
        by_cases hs : (G k).size ≤ 1048576
        · by_cases hs2 : t + (G k).size ≤ 1048576
          · go_wp2
            go_round
            case rel => exact ⟨k + 1, t + (G k).size, by omega, by go_num, rfl, by omega, by omega⟩
            case measure => simp [intOf]; omega
          · go_wp2
            go_ret
            exact ⟨⟨false, rfl⟩, rfl⟩
        · go_wp2
          go_ret
          exact ⟨⟨false, rfl⟩, rfl⟩
      · have hge : n ≤ k := by omega
        clear hlt
        by_cases h2 : m ≤ 1048576
        · by_cases h3 : t + m ≤ 1048576
          · go_wp2
            go_loop [5, 7] (fun vt vi => ∃ (j : Nat) (u : Int), j ≤ m ∧ vi = .int .i64 j ∧ vt = .int .i64 u ∧ 0 ≤ u ∧ u ≤ 1048576) (fun _ vi => m - (intOf vi).toNat)
            case atStart => exact ⟨0, _, Nat.zero_le _, rfl, rfl, by omega, by omega⟩
            case round =>
              obtain ⟨j, u, hj, rfl, rfl, hu0, hu1⟩ := hrel
              by_cases hlt : j < m
              · obtain ⟨blk, off, hb, hc⟩ := strs_at HB.out (by omega)
                have hcj := hc j hlt
                rw [hb]
                clear hb hc
                by_cases hs : (K j).size ≤ 1048576
                · by_cases hs2 : u + (K j).size ≤ 1048576
                  · go_wp2
                    go_round
                    case rel => exact ⟨j + 1, u + (K j).size, by omega, by go_num, rfl, by omega, by omega⟩
                    case measure => simp [intOf]; omega
                  · go_wp2
                    go_ret
                    exact ⟨⟨false, rfl⟩, rfl⟩
                · go_wp2
                  go_ret
                  exact ⟨⟨false, rfl⟩, rfl⟩
              · go_wp2
                go_ret
                exact ⟨⟨true, rfl⟩, rfl⟩
          · go_wp2
            go_ret
            exact ⟨⟨false, rfl⟩, rfl⟩
        · go_wp2
          go_ret
          exact ⟨⟨false, rfl⟩, rfl⟩
  · go_enter Try.func14, Try.ntmps14
    go_wp2
    go_ret
    exact ⟨⟨false, rfl⟩, rfl⟩

set_option maxHeartbeats 1000000 in
/-- 'zzBytes' of one list: a bool. -/
theorem bytes1_zz (a : Option Addr) (n ca : Nat) (G : Nat → ByteArray) (w : World) (hn : n ≤ maxLen) (hA : Strs w a n G) :
    Calls Try.prog 22 #[.slice a n ca] w fun e w' => SomeBool e ∧ w' = w := by
  unfold maxLen at hn
  have HA : Hid (Strs w a n G) := hA
  clear hA
  by_cases h1 : n ≤ 1048576
  · go_enter Try.func22, Try.ntmps22
    go_wp2
    go_loop [3, 4] (fun vt vi => ∃ (k : Nat) (t : Int), k ≤ n ∧ vi = .int .i64 k ∧ vt = .int .i64 t ∧ 0 ≤ t ∧ t ≤ 1048576) (fun _ vi => n - (intOf vi).toNat)
    case atStart => exact ⟨0, _, Nat.zero_le _, rfl, rfl, by omega, by omega⟩
    case round =>
      obtain ⟨k, t, hk, rfl, rfl, ht0, ht1⟩ := hrel
      by_cases hlt : k < n
      · obtain ⟨blk, off, ha, hc⟩ := strs_at HA.out (by omega)
        have hck := hc k hlt
        rw [ha]
        clear ha hc
        by_cases hs : (G k).size ≤ 1048576
        · by_cases hs2 : t + (G k).size ≤ 1048576
          · go_wp2
            go_round
            case rel => exact ⟨k + 1, t + (G k).size, by omega, by go_num, rfl, by omega, by omega⟩
            case measure => simp [intOf]; omega
          · go_wp2
            go_ret
            exact ⟨⟨false, rfl⟩, rfl⟩
        · go_wp2
          go_ret
          exact ⟨⟨false, rfl⟩, rfl⟩
      · go_wp2
        go_ret
        exact ⟨⟨true, rfl⟩, rfl⟩
  · go_enter Try.func22, Try.ntmps22
    go_wp2
    go_ret
    exact ⟨⟨false, rfl⟩, rfl⟩
end Go.Proofs.Qxb6601888a
