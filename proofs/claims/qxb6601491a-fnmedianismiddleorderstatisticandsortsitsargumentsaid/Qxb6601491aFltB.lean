/-
  THE LAW's OWN HELPERS ON float64, WALKED: zzLess, zzSameValue, zzIsNegZero, zzSameClass, zzCountClass, zzKth.
-/
import Derived.Test.Qxb6601491aFltA
import Derived.Deep.QuietTactic
import Derived.BigQuiet
namespace Go.Proofs.Qxb6601491a
open Go.RowKit Fl

theorem less_zz (x y : Nat) (w : World) : Calls Try.prog 34 #[.float .f64 x, .float .f64 y] w fun e w' => e = .returned (.bool (ltF x y)) ∧ w' = w := by
  unfold ltF
  generalize hx : nanF x = nx
  generalize hy : nanF y = ny
  have cx : ∀ w, Calls Try.prog 43 #[.float .f64 x] w fun e w' => e = .returned (.bool nx) ∧ w' = w := by rw [← hx]; exact nan_zz x
  have cy : ∀ w, Calls Try.prog 43 #[.float .f64 y] w fun e w' => e = .returned (.bool ny) ∧ w' = w := by rw [← hy]; exact nan_zz y
  clear hx hy
  cases nx
  · go_enter Try.func34, Try.ntmps34
    go_wp2_with fail
    refine (cx _).mono ?_
    rintro e w' ⟨rfl, rfl⟩
    go_wp2_with fail
    go_ret
    exact ⟨by simp [lssF], rfl⟩
  · go_enter Try.func34, Try.ntmps34
    go_wp2_with fail
    refine (cx _).mono ?_
    rintro e w' ⟨rfl, rfl⟩
    go_wp2_with fail
    refine (cy _).mono ?_
    rintro e w' ⟨rfl, rfl⟩
    cases ny
    · go_wp2_with fail
      go_ret
      exact ⟨rfl, rfl⟩
    · go_wp2_with fail
      go_ret
      exact ⟨rfl, rfl⟩

theorem same_zz (x y : Nat) (w : World) : Calls Try.prog 32 #[.float .f64 x, .float .f64 y] w fun e w' => e = .returned (.bool (sameF x y)) ∧ w' = w := by
  unfold sameF
  generalize hx : nanF x = nx
  generalize hy : nanF y = ny
  have cx : ∀ w, Calls Try.prog 43 #[.float .f64 x] w fun e w' => e = .returned (.bool nx) ∧ w' = w := by rw [← hx]; exact nan_zz x
  have cy : ∀ w, Calls Try.prog 43 #[.float .f64 y] w fun e w' => e = .returned (.bool ny) ∧ w' = w := by rw [← hy]; exact nan_zz y
  clear hx hy
  cases nx
  · go_enter Try.func32, Try.ntmps32
    go_wp2_with fail
    refine (cx _).mono ?_
    rintro e w' ⟨rfl, rfl⟩
    go_wp2_with fail
    go_ret
    exact ⟨by simp [eqF], rfl⟩
  · go_enter Try.func32, Try.ntmps32
    go_wp2_with fail
    refine (cx _).mono ?_
    rintro e w' ⟨rfl, rfl⟩
    go_wp2_with fail
    refine (cy _).mono ?_
    rintro e w' ⟨rfl, rfl⟩
    cases ny
    · go_wp2_with fail
      go_ret
      exact ⟨by simp [eqF], rfl⟩
    · go_wp2_with fail
      go_ret
      exact ⟨rfl, rfl⟩

/-- The law's 'zzIsNegZero'. -/
def negz (x : Nat) : Bool := eqF x 0 && (match Ieee.double.div one x with | some r => lssF r 0 | none => false)

theorem negz_zz (x : Nat) (hx : x < 2 ^ 64) (w : World) : Calls Try.prog 31 #[.float .f64 x] w fun e w' => e = .returned (.bool (negz x)) ∧ w' = w := by
  unfold negz
  by_cases h : eqF x 0 = true
  · obtain ⟨r, hr⟩ := inv_zero hx h
    rw [hr, h]
    have hd := fun w => run_float_arith (P := Try.prog) w .quo 61 .f64 4607182418800017408 x r hr
    unfold eqF at h
    clear hr hx
    go_enter Try.func31, Try.ntmps31
    go_wp2
    go_ret
    exact ⟨by simp [lssF], rfl⟩
  · have h' : eqF x 0 = false := by simpa using h
    rw [h', Bool.false_and]
    unfold eqF at h'
    clear h
    go_enter Try.func31, Try.ntmps31
    go_wp2
    go_ret
    exact ⟨rfl, rfl⟩

/-- The law's 'zzSameClass'. -/
def classF (x y : Nat) : Bool := if nanF x || nanF y then nanF x && nanF y else eqF x y && (negz x == negz y)

set_option maxHeartbeats 400000 in
theorem class_zz (x y : Nat) (hx : x < 2 ^ 64) (hy : y < 2 ^ 64) (w : World) : Calls Try.prog 44 #[.float .f64 x, .float .f64 y] w fun e w' => e = .returned (.bool (classF x y)) ∧ w' = w := by
  unfold classF
  generalize hnx : nanF x = nx
  generalize hny : nanF y = ny
  generalize hzx : negz x = zx
  generalize hzy : negz y = zy
  generalize heq : eqF x y = q
  have cx : ∀ w, Calls Try.prog 43 #[.float .f64 x] w fun e w' => e = .returned (.bool nx) ∧ w' = w := by rw [← hnx]; exact nan_zz x
  have cy : ∀ w, Calls Try.prog 43 #[.float .f64 y] w fun e w' => e = .returned (.bool ny) ∧ w' = w := by rw [← hny]; exact nan_zz y
  have dx : ∀ w, Calls Try.prog 31 #[.float .f64 x] w fun e w' => e = .returned (.bool zx) ∧ w' = w := by rw [← hzx]; exact negz_zz x hx
  have dy : ∀ w, Calls Try.prog 31 #[.float .f64 y] w fun e w' => e = .returned (.bool zy) ∧ w' = w := by rw [← hzy]; exact negz_zz y hy
  unfold eqF at heq
  clear hnx hny hzx hzy hx hy
  cases nx
  · cases ny
    · cases q
      · go_enter Try.func44, Try.ntmps44
        go_wp2_with fail
        refine (cx _).mono ?_
        rintro e w' ⟨rfl, rfl⟩
        go_wp2_with fail
        refine (cy _).mono ?_
        rintro e w' ⟨rfl, rfl⟩
        go_wp2_with fail
        go_ret
        exact ⟨rfl, rfl⟩
      · go_enter Try.func44, Try.ntmps44
        go_wp2_with fail
        refine (cx _).mono ?_
        rintro e w' ⟨rfl, rfl⟩
        go_wp2_with fail
        refine (cy _).mono ?_
        rintro e w' ⟨rfl, rfl⟩
        go_wp2_with fail
        refine (dx _).mono ?_
        rintro e w' ⟨rfl, rfl⟩
        go_wp2_with fail
        refine (dy _).mono ?_
        rintro e w' ⟨rfl, rfl⟩
        go_wp2_with fail
        go_ret
        exact ⟨rfl, rfl⟩
    · go_enter Try.func44, Try.ntmps44
      go_wp2_with fail
      refine (cx _).mono ?_
      rintro e w' ⟨rfl, rfl⟩
      go_wp2_with fail
      refine (cy _).mono ?_
      rintro e w' ⟨rfl, rfl⟩
      go_wp2_with fail
      refine (cx _).mono ?_
      rintro e w' ⟨rfl, rfl⟩
      go_wp2_with fail
      go_ret
      exact ⟨rfl, rfl⟩
  · go_enter Try.func44, Try.ntmps44
    go_wp2_with fail
    refine (cx _).mono ?_
    rintro e w' ⟨rfl, rfl⟩
    go_wp2_with fail
    refine (cx _).mono ?_
    rintro e w' ⟨rfl, rfl⟩
    go_wp2_with fail
    refine (cy _).mono ?_
    rintro e w' ⟨rfl, rfl⟩
    go_wp2_with fail
    go_ret
    exact ⟨rfl, rfl⟩

/-- How many of the first k places. -/
def cnt (p : Nat → Bool) : Nat → Nat
  | 0 => 0
  | k + 1 => cnt p k + (if p k then 1 else 0)

theorem cnt_le (p : Nat → Bool) (k : Nat) : cnt p k ≤ k := by
  induction k with
  | zero => exact Nat.le_refl _
  | succ k ih => simp only [cnt]; split <;> omega

theorem cnt_yes {p : Nat → Bool} {k : Nat} (h : p k = true) : cnt p (k + 1) = cnt p k + 1 := by simp [cnt, h]
theorem cnt_no {p : Nat → Bool} {k : Nat} (h : p k = false) : cnt p (k + 1) = cnt p k := by simp [cnt, h]

theorem ret_int {k : IntKind} {a b : Int} (h : a = b) : Ending.returned (.int k a) = .returned (.int k b) := by rw [h]

set_option maxHeartbeats 400000 in
theorem count_zz (blk off cap n x : Nat) (G : Nat → Nat) (w : World) (hn : n ≤ 4096) (hc : ∀ t, t < n → w.cell? ⟨blk, off + t, none⟩ = some (.float .f64 (G t))) (hG : ∀ t, t < n → G t < 2 ^ 64) (hx : x < 2 ^ 64) :
    Calls Try.prog 35 #[.slice (some ⟨blk, off, none⟩) n cap, .float .f64 x] w fun e w' => e = .returned (.int .i64 (cnt (fun i => classF (G i) x) n : Nat)) ∧ w' = w := by
  go_enter Try.func35, Try.ntmps35
  go_wp2
  go_loop [5, 6] (fun c i => ∃ k : Nat, k ≤ n ∧ i = .int .i64 k ∧ c = .int .i64 (cnt (fun i => classF (G i) x) k : Nat)) (fun _ i => n - (intOf i).toNat)
  case atStart => exact ⟨0, Nat.zero_le _, rfl, rfl⟩
  case round =>
    obtain ⟨k, hk, rfl, rfl⟩ := hrel
    have hcl := cnt_le (fun i => classF (G i) x) k
    by_cases hlt : k < n
    · have hck := hc k hlt
      have hcall := fun w => class_zz (G k) x (hG k hlt) hx w
      have hy := @cnt_yes (fun i => classF (G i) x) k
      have hno := @cnt_no (fun i => classF (G i) x) k
      generalize classF (G k) x = b at hcall hy hno
      have HY : Hid (b = true → cnt (fun i => classF (G i) x) (k + 1) = cnt (fun i => classF (G i) x) k + 1) := hy
      have HN : Hid (b = false → cnt (fun i => classF (G i) x) (k + 1) = cnt (fun i => classF (G i) x) k) := hno
      clear hc hG hx hy hno
      go_wp2_with (go_at_call 44; refine (hcall _).mono ?_; rintro e w' ⟨rfl, rfl⟩)
      · go_round
        case rel => exact ⟨k + 1, by omega, by go_num, by rw [HY.out (by assumption)]; go_num⟩
        case measure => simp [intOf]; omega
      · go_round
        case rel => exact ⟨k + 1, by omega, by go_num, by rw [HN.out (by assumption)]⟩
        case measure => simp [intOf]; omega
    · go_wp2
      go_ret
      exact ⟨ret_int (by rw [show k = n by omega]), rfl⟩

/-- How many are less than the one at c; how many it is not less than. -/
def below (G : Nat → Nat) (c m : Nat) : Nat := cnt (fun u => ltF (G u) (G c)) m
def upTo (G : Nat → Nat) (c m : Nat) : Nat := cnt (fun u => !ltF (G c) (G u)) m

theorem below_le (G : Nat → Nat) (c m : Nat) : below G c m ≤ m := cnt_le _ _
theorem upTo_le (G : Nat → Nat) (c m : Nat) : upTo G c m ≤ m := cnt_le _ _
theorem below_step (G : Nat → Nat) (c m : Nat) : below G c (m + 1) = below G c m + (if ltF (G m) (G c) then 1 else 0) := rfl
theorem upTo_step (G : Nat → Nat) (c m : Nat) : upTo G c (m + 1) = upTo G c m + (if !ltF (G c) (G m) then 1 else 0) := rfl

set_option maxHeartbeats 1000000 in
/-- 'zzKth', where some place is the k-th. -/
theorem kth_zz (blk off cap n k : Nat) (G : Nat → Nat) (w : World) (hn : n ≤ 4096) (hk : k < n) (hc : ∀ t, t < n → w.cell? ⟨blk, off + t, none⟩ = some (.float .f64 (G t)))
    (hex : Hid (∃ c, c < n ∧ below G c n ≤ k ∧ k < upTo G c n)) :
    Calls Try.prog 33 #[.slice (some ⟨blk, off, none⟩) n cap, .int .i64 k] w fun e w' => ∃ c, c < n ∧ below G c n ≤ k ∧ k < upTo G c n ∧ e = .returned (.float .f64 (G c)) ∧ ∃ q, w' = w.drewN q := by
  go_enter Try.func33, Try.ntmps33
  go_wp2
  go_loopw [5, 6, 7, 8] (fun vc _ _ _ wr => ∃ (c q : Nat), c ≤ n ∧ vc = .int .i64 c ∧ wr = w.drewN q ∧ (∀ j, j < c → ¬ (below G j n ≤ k ∧ k < upTo G j n))) (fun vc _ _ _ _ => n - (intOf vc).toNat)
  case atStart => exact ⟨0, 0, Nat.zero_le _, rfl, rfl, fun j hj => absurd hj (Nat.not_lt_zero _)⟩
  case round =>
    obtain ⟨c, q, hcn, rfl, rfl, hno⟩ := hrel
    have HNO : Hid (∀ j, j < c → ¬ (below G j n ≤ k ∧ k < upTo G j n)) := hno
    clear hno
    by_cases hlt : c < n
    · go_wp2
      go_loopw [6, 7, 8] (fun vb vu vi wr => ∃ (m q : Nat), m ≤ n ∧ vb = .int .i64 (below G c m : Nat) ∧ vu = .int .i64 (upTo G c m : Nat) ∧ vi = .int .i64 m ∧ wr = w.drewN q) (fun _ _ vi _ => n - (intOf vi).toNat)
      case atStart => exact ⟨0, q, Nat.zero_le _, rfl, rfl, rfl, rfl⟩
      case round =>
        obtain ⟨m, q2, hmn, rfl, rfl, rfl, hw2⟩ := hrel
        have hb := below_le G c m
        have hu := upTo_le G c m
        by_cases hmlt : m < n
        · have hcm : wr.cell? ⟨blk, off + m, none⟩ = some (.float .f64 (G m)) := by rw [hw2]; exact hc m hmlt
          have hcc : wr.cell? ⟨blk, off + c, none⟩ = some (.float .f64 (G c)) := by rw [hw2]; exact hc c hlt
          have HW : Hid (wr = w.drewN q2) := hw2
          clear hw2
          have hbs := below_step G c m
          have hus := upTo_step G c m
          have c1 := fun w => less_zz (G m) (G c) w
          have c2 := fun w => less_zz (G c) (G m) w
          generalize ltF (G m) (G c) = b1 at hbs c1
          generalize ltF (G c) (G m) = b2 at hus c2
          have HBS : Hid (below G c (m + 1) = below G c m + (if b1 then 1 else 0)) := hbs
          have HUS : Hid (upTo G c (m + 1) = upTo G c m + (if !b2 then 1 else 0)) := hus
          clear hbs hus
          cases b1 <;> cases b2
          all_goals
            go_wp2_with fail
            go_quiet ((go_at_call 34; exact Calls.quiet_of_same (c1 _)))
            go_wp2_with fail
            revert nq
            intro nq1
            have hcm2 : (wr.drewN nq1).cell? ⟨blk, off + m, none⟩ = some (.float .f64 (G m)) := hcm
            have hcc2 : (wr.drewN nq1).cell? ⟨blk, off + c, none⟩ = some (.float .f64 (G c)) := hcc
            have HW2 : Hid (wr.drewN nq1 = w.drewN (q2 + nq1)) := by show _ = _; rw [HW.out, World.drewN_drewN]
            clear hcm hcc
            generalize wr.drewN nq1 = wr2 at hcm2 hcc2 HW2 ⊢
            go_quiet ((go_at_call 34; exact Calls.quiet_of_same (c2 _)))
            go_wp2_with fail
            go_roundw
            case rel => exact ⟨m + 1, _, by omega, by rw [HBS.out]; go_num, by rw [HUS.out]; go_num, by go_num, by rw [HW2.out, World.drewN_drewN]⟩
            case measure => simp [intOf]; omega
        · have hmn' : m = n := by omega
          subst hmn'
          subst hw2
          by_cases hy : below G c m ≤ k ∧ k < upTo G c m
          · obtain ⟨hy1, hy2⟩ := hy
            have hcc := hc c hlt
            go_wp2_with fail
            go_ret
            exact ⟨c, hlt, hy1, hy2, rfl, q2, rfl⟩
          · have hnew : ∀ j, j < c + 1 → ¬ (below G j m ≤ k ∧ k < upTo G j m) := fun j hj => by
              by_cases hjc : j = c
              · subst hjc; exact hy
              · exact HNO.out j (by omega)
            have HNEW : Hid (∀ j, j < c + 1 → ¬ (below G j m ≤ k ∧ k < upTo G j m)) := hnew
            clear hnew
            by_cases h1 : below G c m ≤ k
            · have h2 : ¬ k < upTo G c m := fun h => hy ⟨h1, h⟩
              clear hy
              go_wp2_with fail
              go_roundw
              case rel => exact ⟨c + 1, q2, by omega, by go_num, rfl, HNEW.out⟩
              case measure => simp [intOf]; omega
            · clear hy
              go_wp2_with fail
              go_roundw
              case rel => exact ⟨c + 1, q2, by omega, by go_num, rfl, HNEW.out⟩
              case measure => simp [intOf]; omega
    · exfalso
      obtain ⟨j, hj, hj2⟩ := hex.out
      exact HNO.out j (by omega) hj2
end Go.Proofs.Qxb6601491a
