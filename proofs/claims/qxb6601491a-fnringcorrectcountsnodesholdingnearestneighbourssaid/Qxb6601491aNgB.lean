/-
  zzBytes OF THE newGraph LAW, WALKED: a bool, the world as it was.
-/
import Derived.Test.Qxb6601491aNgA
namespace Go.Proofs.Qxb6601491a
open Go.RowKit
open Go.Extern.Stop (cell)

set_option maxHeartbeats 1000000 in
theorem bytes_ng (a : Option Addr) (n cap : Nat) (D : Nat → NodeD) (vs : Nat → Value) (w : World) (hn : n ≤ maxLen) (hA : NodesAt w a n D vs) :
    Calls Try.prog 9 #[.slice a n cap] w fun e w' => SomeBool e ∧ w' = w := by
  unfold maxLen at hn
  have HA : Hid (NodesAt w a n D vs) := hA
  clear hA
  by_cases h1 : n ≤ 1048576
  · go_enter Try.func9, Try.ntmps9
    go_wp2
    go_loop [3, 4] (fun vt vi => ∃ (k : Nat) (t : Int), k ≤ n ∧ vi = .int .i64 k ∧ vt = .int .i64 t ∧ 0 ≤ t ∧ t ≤ 1048576) (fun _ vi => n - (intOf vi).toNat)
    case atStart => exact ⟨0, n, Nat.zero_le _, rfl, rfl, by omega, by omega⟩
    case round =>
      obtain ⟨k, t, hk, rfl, rfl, ht0, ht1⟩ := hrel
      by_cases hlt : k < n
      · obtain ⟨blk, off, ha, hc⟩ := HA.out.at (by omega)
        obtain ⟨hl, hr, a2, c2, hv, -, hm2, -⟩ := hc k hlt
        obtain ⟨-, e0, e1⟩ := node_cells hl hr
        rw [hv] at e1
        rw [ha]
        unfold maxLen at hm2
        clear ha hc hl hr hv
        generalize (D k).ne = m at e1 hm2
        generalize (D k).tr = s at e0
        by_cases h20 : t + 20 ≤ 1048576
        · by_cases hs : (s.size : Int) ≤ 1048576
          · by_cases hs2 : t + 20 + s.size ≤ 1048576
            · by_cases hm : (m : Int) ≤ 1048576
              · by_cases hm3 : t + 20 + s.size + m ≤ 1048576
                · go_wp2_with fail
                  go_loop [3, 5] (fun vt vi => ∃ (j : Nat) (u : Int), j ≤ m ∧ vi = .int .i64 j ∧ vt = .int .i64 u ∧ 0 ≤ u ∧ u ≤ 1048576) (fun _ vi => m - (intOf vi).toNat)
                  case atStart => exact ⟨0, _, Nat.zero_le _, rfl, rfl, by omega, by omega⟩
                  case round =>
                    obtain ⟨j, u, hj, rfl, rfl, hu0, hu1⟩ := hrel
                    by_cases hjm : j < m
                    · by_cases hu2 : u + 20 ≤ 1048576
                      · go_wp2_with fail
                        go_round
                        case rel => exact ⟨j + 1, u + 20, by omega, by go_num, rfl, by omega, by omega⟩
                        case measure => simp [intOf]; omega
                      · go_wp2_with fail
                        go_ret
                        exact ⟨⟨false, rfl⟩, rfl⟩
                    · go_wp2_with fail
                      go_round
                      case rel => exact ⟨k + 1, u, by omega, by go_num, rfl, by omega, by omega⟩
                      case measure => simp [intOf]; omega
                · go_wp2_with fail
                  go_ret
                  exact ⟨⟨false, rfl⟩, rfl⟩
              · go_wp2_with fail
                go_ret
                exact ⟨⟨false, rfl⟩, rfl⟩
            · go_wp2_with fail
              go_ret
              exact ⟨⟨false, rfl⟩, rfl⟩
          · go_wp2_with fail
            go_ret
            exact ⟨⟨false, rfl⟩, rfl⟩
        · go_wp2_with fail
          go_ret
          exact ⟨⟨false, rfl⟩, rfl⟩
      · go_wp2_with fail
        go_ret
        exact ⟨⟨true, rfl⟩, rfl⟩
  · go_enter Try.func9, Try.ntmps9
    go_wp2
    go_ret
    exact ⟨⟨false, rfl⟩, rfl⟩
end Go.Proofs.Qxb6601491a
