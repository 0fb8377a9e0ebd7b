/-
  median, ZZMedian: walked.
-/
import Derived.Test.Qxb6601491aFltC
namespace Go.Proofs.Qxb6601491a
open Go.RowKit Go.Sort Fl

/-- The NaN that an operation without an answer hands back: its bits are the tape's. -/
def nanAt (w : World) (x y : Nat) : Nat := (Question.nanBits .f64 x y).cut (w.tape w.drawn (.nanBits .f64 x y))

theorem run_add_nan {P : Program} (w : World) (x y : Nat) (h : Ieee.double.add x y = none) : (binOp .add 61 (.float .f64 x) (.float .f64 y)).run P w = .ok (.float .f64 (nanAt w x y)) w.drew := by
  have h' : FloatKind.f64.format.add x y = none := h
  simp [binOp, Op.floatArith, h', nanAt, Question.forced]

theorem run_quo_nan {P : Program} (w : World) (x y : Nat) (h : Ieee.double.div x y = none) : (binOp .quo 61 (.float .f64 x) (.float .f64 y)).run P w = .ok (.float .f64 (nanAt w x y)) w.drew := by
  have h' : FloatKind.f64.format.div x y = none := h
  simp [binOp, Op.floatArith, h', nanAt, Question.forced]

theorem nan_word (t u : Nat) (hu : u < 4503599627370495) : key (t % 2 * 2 ^ 63 + 0x7ff0000000000000 + 1 + u) = (0, 0) := by
  refine key_nan ?_
  have e : (t % 2 * 2 ^ 63 + 0x7ff0000000000000 + 1 + u) % 2 ^ 63 = 9218868437227405313 + u := by
    rw [Nat.add_assoc, Nat.add_assoc, Nat.add_comm, Nat.add_mul_mod_self_right, Nat.mod_eq_of_lt (by omega)]
    omega
  rcases key_cases (t % 2 * 2 ^ 63 + 0x7ff0000000000000 + 1 + u) with h | ⟨h, -⟩ | h
  · exact h
  · rw [e] at h; omega
  · exfalso
    unfold key Ieee.Format.read at h
    have e1 : Ieee.double.signWeight = 2 ^ 63 := by decide
    have e2 : Ieee.double.binade = 4503599627370496 := by decide
    have e3 : Ieee.double.infRung = 9218868437227405312 := by decide
    dsimp only at h
    rw [e1, e2, e3, e] at h
    rw [if_neg (by omega), if_neg (by omega), if_neg (by omega)] at h
    cases congrArg Prod.fst h

theorem key_nanAt (w : World) (x y : Nat) : key (nanAt w x y) = (0, 0) := by
  unfold nanAt Question.cut
  exact nan_word _ _ (Nat.mod_lt _ (by decide))

/-- The key of '(x + y) / 2'. -/
def avgKey (x y : Nat) : Nat × Int :=
  match Ieee.double.add x y with
  | none => (0, 0)
  | some r => match Ieee.double.div r two with
    | none => (0, 0)
    | some q => key q

/-- What the median's key is, over the sorted list. -/
def medKey (ss : List Nat) : Nat × Int :=
  if ss.length % 2 = 0 then avgKey (ss.getD (ss.length / 2 - 1) 0) (ss.getD (ss.length / 2) 0) else key (ss.getD (ss.length / 2) 0)

theorem map_none_iff {o : Option Nat} : o.map key = none ↔ o = none := by cases o <;> simp

theorem avg_key {x x' y y' : Nat} (hx : x < 2 ^ 64) (hx' : x' < 2 ^ 64) (hy : y < 2 ^ 64) (hy' : y' < 2 ^ 64) (h1 : key x = key x') (h2 : key y = key y') : avgKey x y = avgKey x' y' := by
  have h := add_key hx hx' hy hy' h1 h2
  unfold avgKey
  cases a : Ieee.double.add x y with
  | none => rw [a] at h; rw [map_none_iff.1 h.symm]
  | some r =>
    rw [a] at h
    cases b : Ieee.double.add x' y' with
    | none => rw [b] at h; cases h
    | some r' =>
      rw [b] at h
      have hk : key r = key r' := by simpa using h
      have lr : r < 2 ^ 64 := Ieee.double.add_lt a
      have lr' : r' < 2 ^ 64 := Ieee.double.add_lt b
      have g := half_key lr lr' hk
      simp only
      cases c : Ieee.double.div r two with
      | none => rw [c] at g; rw [map_none_iff.1 g.symm]
      | some q =>
        rw [c] at g
        cases d : Ieee.double.div r' two with
        | none => rw [d] at g; cases g
        | some q' => rw [d] at g; simpa using g

theorem grownBy_sortedF {w : World} {g off n : Nat} {os : Array Obj} (d : Array Nat) : w.grownBy (grow (putRow encF (Sort.ahead w n) g off d) os) (some g) := by
  refine ⟨rfl, rfl, rfl, by simp, fun k hk hne => ?_⟩
  rw [heap_grow_old _ _ (by simpa using hk)]
  have : g ≠ k := fun e => hne (by rw [e])
  simp [putRow, mapBlock, Sort.ahead, Array.getElem?_modify, this]

theorem grownBy_drewN {w w' : World} {row : Option Nat} (h : w.grownBy w' row) (q : Nat) : w.grownBy (w'.drewN q) row := ⟨h.os, h.tape, h.output, h.size, h.block⟩
theorem grownBy_drew {w w' : World} {row : Option Nat} (h : w.grownBy w' row) : w.grownBy w'.drew row := ⟨h.os, h.tape, h.output, h.size, h.block⟩

/-- slices.Sort at []float64, as a caller wants it. -/
theorem sort_flt' (blk off cap : Nat) (zs : List Nat) (w : World) (hn : zs.length ≤ 4096) (hblk : blk < w.heap.size) (hH : Holds encF w blk off zs.toArray) :
    Calls Try.prog 53 #[.slice (some ⟨blk, off, none⟩) zs.length cap] w fun e w1 => e = .returned (.tuple #[]) ∧ ∃ (ss : List Nat) (G : Nat → Nat), ss.Perm zs ∧ ss.Pairwise (fun x y => ltF y x = false) ∧
      Holds encF w1 blk off ss.toArray ∧ w.grownBy w1 (some blk) ∧ (∀ t, G t = ss.getD t 0) ∧ (∀ t, t < zs.length → w1.cell? ⟨blk, off + t, none⟩ = some (.float .f64 (G t))) := by
  refine (sort_flt blk off cap zs w hH hblk (by omega)).mono ?_
  rintro e w' ⟨rfl, ss, n, os, hp, hs, rfl⟩
  have hlen : ss.length = zs.length := hp.length_eq
  have hH1 : Holds encF (grow (putRow encF (Sort.ahead w n) blk off ss.toArray) os) blk off ss.toArray :=
    holds_grow _ _ _ _ _ _ (by simpa using hblk) (holds_putRow _ _ _ _ zs.toArray _ (holds_ahead _ _ _ _ _ _ hH) (by simpa using hlen))
  refine ⟨rfl, ss, fun t => ss.getD t 0, hp, hs, hH1, grownBy_sortedF _, fun _ => rfl, fun t ht => ?_⟩
  rw [(hH1 t (by simpa [hlen] using ht)).1]
  simp [List.getD, hlen, ht]

set_option maxHeartbeats 1000000 in
/-- 'median' of a slice that is not empty: it sorts its argument; what it hands back has the middle's key. -/
theorem median_any (blk off cap : Nat) (zs : List Nat) (w : World) (h0 : 0 < zs.length) (hn : zs.length ≤ 4096) (hblk : blk < w.heap.size) (hH : Holds encF w blk off zs.toArray) :
    Calls Try.prog 42 #[.slice (some ⟨blk, off, none⟩) zs.length cap] w fun e w' => ∃ (ss : List Nat) (g : Nat), ss.Perm zs ∧ ss.Pairwise (fun x y => ltF y x = false) ∧ e = .returned (.float .f64 g) ∧ key g = medKey ss ∧
      Holds encF w' blk off ss.toArray ∧ w.grownBy w' (some blk) := by
  have hc := sort_flt' blk off cap zs w hn hblk hH
  have hz : ((zs.length : Int) == 0) = false := beq_eq_false_iff_ne.2 (by omega)
  clear hH
  generalize hN : zs.length = N at h0 hn hc hz
  have HN : Hid (zs.length = N) := hN
  clear hN
  go_enter Try.func42, Try.ntmps42
  go_wp2_with fail
  refine hc.mono ?_
  clear hc
  rintro e w1 ⟨rfl, ss, G, hp, hs, hH1, hgr, hG, hcell⟩
  have hlen : ss.length = N := hp.length_eq.trans HN.out
  have P1 : Hid (ss.Perm zs) := hp
  have P2 : Hid (ss.Pairwise (fun x y => ltF y x = false)) := hs
  have P3 : Hid (Holds encF w1 blk off ss.toArray) := hH1
  have P4 : Hid (w.grownBy w1 (some blk)) := hgr
  by_cases hpar : N % 2 = 0
  · have hk : medKey ss = avgKey (G (N / 2 - 1)) (G (N / 2)) := by unfold medKey; rw [hlen, if_pos hpar, hG, hG]
    have HK : Hid (medKey ss = avgKey (G (N / 2 - 1)) (G (N / 2))) := hk
    have e1 : ((N : Int) % 2 == 0) = true := by simp; omega
    have h2 : 2 ≤ N := by omega
    have c1 := hcell (N / 2 - 1) (by omega)
    have c2 := hcell (N / 2) (by omega)
    clear hp hs hH1 hgr hG hlen hcell hk hpar
    generalize G (N / 2 - 1) = x at c1 HK
    generalize G (N / 2) = y at c2 HK
    cases hadd : Ieee.double.add x y with
    | none =>
      have hA := fun w => run_add_nan (P := Try.prog) w x y hadd
      have hQ := fun w u => run_quo_nan (P := Try.prog) w (nanAt u x y) 4611686018427387904 (half_nan (by rw [key_nanAt]))
      have HV : Hid (avgKey x y = (0, 0)) := by show _ = _; unfold avgKey; rw [hadd]
      clear hadd
      go_wp2_with fail
      go_region
      all_goals go_wp2_with fail
      all_goals go_ret
      all_goals exact ⟨ss, _, P1.out, P2.out, rfl, by rw [HK.out, HV.out, key_nanAt], P3.out, grownBy_drew (grownBy_drew (grownBy_drew P4.out))⟩
    | some r =>
      have hA := fun w => run_float_arith (P := Try.prog) w .add 61 .f64 x y r hadd
      cases hdiv : Ieee.double.div r two with
      | none =>
        have hQ := fun w => run_quo_nan (P := Try.prog) w r 4611686018427387904 hdiv
        have HV : Hid (avgKey x y = (0, 0)) := by show _ = _; unfold avgKey; rw [hadd]; simp only; rw [hdiv]
        clear hadd hdiv
        go_wp2_with fail
        go_region
        all_goals go_wp2_with fail
        all_goals go_ret
        all_goals exact ⟨ss, _, P1.out, P2.out, rfl, by rw [HK.out, HV.out, key_nanAt], P3.out, grownBy_drew (grownBy_drew P4.out)⟩
      | some q =>
        have hQ := fun w => run_float_arith (P := Try.prog) w .quo 61 .f64 r 4611686018427387904 q hdiv
        have HV : Hid (avgKey x y = key q) := by show _ = _; unfold avgKey; rw [hadd]; simp only; rw [hdiv]
        clear hadd hdiv
        go_wp2_with fail
        go_region
        all_goals go_wp2_with fail
        all_goals go_ret
        all_goals exact ⟨ss, _, P1.out, P2.out, rfl, by rw [HK.out, HV.out], P3.out, grownBy_drew P4.out⟩
  · have hk : medKey ss = key (G (N / 2)) := by unfold medKey; rw [hlen, if_neg hpar, hG]
    have HK : Hid (medKey ss = key (G (N / 2))) := hk
    have e1 : ((N : Int) % 2 == 0) = false := by simp; omega
    have c2 := hcell (N / 2) (by omega)
    clear hp hs hH1 hgr hG hlen hcell hk hpar
    go_wp2_with fail
    go_ret
    exact ⟨ss, _, P1.out, P2.out, rfl, HK.out.symm, P3.out, P4.out⟩

theorem median_zz (blk off cap : Nat) (zs : List Nat) (w : World) (h0 : 0 < zs.length) (hn : zs.length ≤ 4096) (hblk : blk < w.heap.size) (hH : Holds encF w blk off zs.toArray) :
    Calls Try.prog 30 #[.slice (some ⟨blk, off, none⟩) zs.length cap] w fun e w' => ∃ (ss : List Nat) (g : Nat), ss.Perm zs ∧ ss.Pairwise (fun x y => ltF y x = false) ∧ e = .returned (.float .f64 g) ∧ key g = medKey ss ∧
      Holds encF w' blk off ss.toArray ∧ w.grownBy w' (some blk) := by
  have hc := median_any blk off cap zs w h0 hn hblk hH
  clear hH
  go_enter Try.func30, Try.ntmps30
  go_wp2_with fail
  refine hc.mono ?_
  rintro e w1 ⟨ss, g, p1, p2, rfl, p3, p4, p5⟩
  have H3 : Hid _ := p3
  clear p3
  go_wp2_with fail
  go_ret
  exact ⟨ss, g, p1, p2, rfl, H3.out, p4, p5⟩

/-- 'median' of an empty slice: +0. -/
theorem median_none (a : Option Addr) (cap : Nat) (w : World) : Calls Try.prog 30 #[.slice a 0 cap] w fun e w' => e = .returned (.float .f64 0) ∧ w' = w := by
  go_enter Try.func30, Try.ntmps30
  go_wp2
  go_ret
  exact ⟨rfl, rfl⟩
end Go.Proofs.Qxb6601491a
