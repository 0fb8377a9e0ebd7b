/-
  PLAIN FACTS ON float64 AS THE MODEL HAS IT (Ieee): no Go, no program: the order of slices.Sort on floats is a strict weak order (by a key); '+' and '/ 2' respect 'the same value'.
-/
import Ieee.Arith
import GoSem.Core.Float
namespace Go.Proofs.Qxb6601491a.Fl
open Ieee

/-- Where a datum stands in the order: NaN, minus infinity, the numbers (by their value in units of 2^-1074), plus infinity. -/
def dkey : Datum → Nat × Int
  | .nan _ _ => (0, 0)
  | .infinity s => if s then (1, 0) else (3, 0)
  | .number s m i => (2, signed s m (i + 1074).toNat)

def key (x : Nat) : Nat × Int := dkey (double.read x)

/-- One key ahead of another. -/
def klt (p q : Nat × Int) : Bool := decide (p.1 < q.1) || (decide (p.1 = q.1) && decide (p.2 < q.2))

theorem klt_irrefl (p : Nat × Int) : klt p p = false := by simp [klt]
theorem klt_trans {p q r : Nat × Int} (h1 : klt p q = true) (h2 : klt q r = true) : klt p r = true := by
  simp [klt] at *; omega
theorem klt_ntrans {p q r : Nat × Int} (h1 : klt p q = false) (h2 : klt q r = false) : klt p r = false := by
  simp [klt] at *; omega
theorem klt_tri {p q : Nat × Int} (h1 : klt p q = false) (h2 : klt q p = false) : p = q := by
  simp [klt] at *
  exact Prod.ext (by omega) (by omega)

theorem signed_up (s : Bool) (m a b : Nat) : signed s m (a + b) = signed s m a * (2 ^ b : Nat) := by
  unfold signed
  rw [Nat.shiftLeft_eq, Nat.shiftLeft_eq, Nat.pow_add, ← Nat.mul_assoc]
  split
  · rw [Int.neg_mul, Int.natCast_mul]
  · rw [Int.natCast_mul]

theorem read_place {x : Nat} {s : Bool} {m : Nat} {i : Int} (h : double.read x = .number s m i) : -1074 ≤ i := by
  unfold Format.read at h
  have e : double.leastPlace = -1074 := by decide
  dsimp only at h
  rw [e] at h
  split at h
  · injection h with _ _ h; omega
  · split at h
    · injection h with _ _ h; omega
    · split at h <;> cases h

theorem compare_mul (a b : Int) (c : Nat) (hc : 0 < c) : compare (a * c) (b * c) = compare a b := by
  have hc' : (0 : Int) < c := by omega
  simp only [compare, compareOfLessAndEq]
  by_cases h1 : a < b
  · rw [if_pos h1, if_pos (Int.mul_lt_mul_of_pos_right h1 hc')]
  · by_cases h2 : a = b
    · subst h2; simp
    · rw [if_neg h1, if_neg h2, if_neg (by intro h; exact h1 (Int.lt_of_mul_lt_mul_right h (by omega))), if_neg (by intro h; exact h2 (Int.eq_of_mul_eq_mul_right (by omega) h))]

theorem order_numbers {s t : Bool} {m n : Nat} {i j : Int} (hi : -1074 ≤ i) (hj : -1074 ≤ j) :
    Datum.order (.number s m i) (.number t n j) = some (compare (signed s m (i + 1074).toNat) (signed t n (j + 1074).toNat)) := by
  simp only [Datum.order]
  have e1 : (i + 1074).toNat = (i - min i j).toNat + (min i j + 1074).toNat := by omega
  have e2 : (j + 1074).toNat = (j - min i j).toNat + (min i j + 1074).toNat := by omega
  rw [e1, e2, signed_up, signed_up, compare_mul _ _ _ (Nat.two_pow_pos _)]

theorem compare_klt (a b : Int) : compare a b = if klt (2, a) (2, b) then .lt else if klt (2, b) (2, a) then .gt else .eq := by
  simp only [compare, compareOfLessAndEq, klt]
  by_cases h1 : a < b
  · simp [h1]
  · by_cases h2 : a = b
    · subst h2; simp
    · have : b < a := by omega
      simp [h1, h2, this]

/-- The order of two words, by their keys. -/
theorem order_key (x y : Nat) : double.order x y = if (key x).1 = 0 ∨ (key y).1 = 0 then none else some (if klt (key x) (key y) then .lt else if klt (key y) (key x) then .gt else .eq) := by
  unfold Format.order key
  cases hx : double.read x with
  | nan s f => simp [Datum.order, dkey]
  | infinity s =>
    cases hy : double.read y with
    | nan t g => simp [Datum.order, dkey]
    | infinity t => cases s <;> cases t <;> simp [Datum.order, dkey, klt] <;> rfl
    | number t n j => cases s <;> simp [Datum.order, dkey, klt]
  | number s m i =>
    cases hy : double.read y with
    | nan t g => simp [Datum.order, dkey]
    | infinity t => cases t <;> simp [Datum.order, dkey, klt]
    | number t n j =>
      rw [order_numbers (read_place hx) (read_place hy), compare_klt]
      have h2 : ¬ ((dkey (.number s m i)).1 = 0 ∨ (dkey (.number t n j)).1 = 0) := by
        show ¬ ((2 : Nat) = 0 ∨ (2 : Nat) = 0)
        omega
      rw [if_neg h2]
      rfl

/-! ### Go's tests on floats, as the walk spells them -/
def nanF (x : Nat) : Bool := FloatKind.f64.format.order x x != some .eq
def eqF (x y : Nat) : Bool := FloatKind.f64.format.order x y == some .eq
def lssF (x y : Nat) : Bool := FloatKind.f64.format.order x y == some .lt
/-- cmp.Less at float64; the law's own 'zzLess' too. -/
def ltF (x y : Nat) : Bool := nanF x && !nanF y || lssF x y
/-- The law's 'zzSameValue'. -/
def sameF (x y : Nat) : Bool := nanF x && nanF y || eqF x y

theorem nanF_key (x : Nat) : nanF x = decide ((key x).1 = 0) := by
  unfold nanF
  show (double.order x x != some .eq) = _
  rw [order_key]
  by_cases h : (key x).1 = 0
  · simp [h]
  · simp [h, klt_irrefl]

theorem key_nan {x : Nat} (h : (key x).1 = 0) : key x = (0, 0) := by
  unfold key at h ⊢
  cases hx : double.read x with
  | nan s f => rfl
  | infinity s => rw [hx] at h; cases s <;> simp [dkey] at h
  | number s m i => rw [hx] at h; simp [dkey] at h

theorem eqF_key (x y : Nat) : eqF x y = (decide (key x = key y) && !decide ((key x).1 = 0)) := by
  unfold eqF
  show (double.order x y == some .eq) = _
  rw [order_key]
  by_cases h : (key x).1 = 0
  · simp [h]
  · by_cases h2 : (key y).1 = 0
    · have : ¬ key x = key y := fun e => h (by rw [e]; exact h2)
      simp [h, h2, this]
    · rw [if_neg (by omega)]
      cases a : klt (key x) (key y)
      · cases b : klt (key y) (key x)
        · have := klt_tri a b; simp [this, h2]
        · have : ¬ key x = key y := fun e => by rw [e, klt_irrefl] at b; cases b
          simp [this]
      · have : ¬ key x = key y := fun e => by rw [e, klt_irrefl] at a; cases a
        simp [this]

theorem lssF_key (x y : Nat) : lssF x y = (klt (key x) (key y) && !decide ((key x).1 = 0)) := by
  unfold lssF
  show (double.order x y == some .lt) = _
  rw [order_key]
  by_cases h : (key x).1 = 0
  · simp [h]
  · by_cases h2 : (key y).1 = 0
    · have : klt (key x) (key y) = false := by simp [klt]; omega
      simp [h, h2, this]
    · rw [if_neg (by omega)]
      cases a : klt (key x) (key y)
      · cases b : klt (key y) (key x) <;> simp
      · simp [h]

theorem ltF_key (x y : Nat) : ltF x y = klt (key x) (key y) := by
  unfold ltF
  rw [nanF_key, nanF_key, lssF_key]
  by_cases h : (key x).1 = 0
  · by_cases h2 : (key y).1 = 0
    · rw [key_nan h, key_nan h2]; simp [klt]
    · simp [h, h2, klt]; omega
  · simp [h]

theorem sameF_key (x y : Nat) : sameF x y = decide (key x = key y) := by
  unfold sameF
  rw [nanF_key, nanF_key, eqF_key]
  by_cases h : (key x).1 = 0
  · by_cases h2 : (key y).1 = 0
    · rw [key_nan h, key_nan h2]; simp
    · have : ¬ key x = key y := fun e => h2 (by rw [← e]; exact h)
      simp [h2, this]
  · simp [h]

/-! ### Two words of one key: they are one, or both are zeros -/
/-- The value of a rung in units of 2^-1074. -/
def val (r : Nat) : Nat := if r < 2 ^ 52 then r else (2 ^ 52 + r % 2 ^ 52) * 2 ^ (r / 2 ^ 52 - 1)

theorem val_hi (r : Nat) : val r < 2 ^ (52 + r / 2 ^ 52) := by
  unfold val
  split
  · next h => rw [Nat.div_eq_of_lt h]; simpa using h
  · next h =>
    have e : 1 ≤ r / 2 ^ 52 := by omega
    have h2 : r % 2 ^ 52 < 2 ^ 52 := Nat.mod_lt _ (Nat.two_pow_pos _)
    have e3 : 2 ^ (52 + r / 2 ^ 52) = 2 ^ 53 * 2 ^ (r / 2 ^ 52 - 1) := by rw [← Nat.pow_add]; congr 1; omega
    rw [e3]
    exact Nat.mul_lt_mul_of_pos_right (by omega) (Nat.two_pow_pos _)

theorem val_lo (r : Nat) (h : 1 ≤ r / 2 ^ 52) : 2 ^ (52 + r / 2 ^ 52 - 1) ≤ val r := by
  unfold val
  rw [if_neg (by omega)]
  have e3 : 2 ^ (52 + r / 2 ^ 52 - 1) = 2 ^ 52 * 2 ^ (r / 2 ^ 52 - 1) := by rw [← Nat.pow_add]; congr 1; omega
  rw [e3]
  exact Nat.mul_le_mul_right _ (by omega)

theorem val_lt {r q : Nat} (h : r < q) : val r < val q := by
  by_cases he : r / 2 ^ 52 < q / 2 ^ 52
  · have h1 := val_hi r
    have h2 := val_lo q (by omega)
    have h3 : 2 ^ (52 + r / 2 ^ 52) ≤ 2 ^ (52 + q / 2 ^ 52 - 1) := Nat.pow_le_pow_right (by omega) (by omega)
    omega
  · have e : r / 2 ^ 52 = q / 2 ^ 52 := by have := Nat.div_le_div_right (c := 2 ^ 52) (Nat.le_of_lt h); omega
    unfold val
    by_cases h0 : r < 2 ^ 52
    · have : r / 2 ^ 52 = 0 := Nat.div_eq_of_lt h0
      rw [if_pos h0, if_pos (by omega)]; exact h
    · rw [if_neg h0, if_neg (by omega), e]
      exact Nat.mul_lt_mul_of_pos_right (by omega) (Nat.two_pow_pos _)

theorem val_inj {r q : Nat} (h : val r = val q) : r = q := by
  rcases Nat.lt_trichotomy r q with g | g | g
  · have := val_lt g; omega
  · exact g
  · have := val_lt g; omega

theorem val_zero {r : Nat} (h : val r = 0) : r = 0 := val_inj (q := 0) (by rw [h]; rfl)

/-- What a word's key says of its sign and rung. -/
theorem key_cases (x : Nat) : ((key x).1 = 0) ∨ (x % 2 ^ 63 = 2047 * 2 ^ 52 ∧ key x = if x / 2 ^ 63 % 2 == 1 then (1, 0) else (3, 0)) ∨
    (key x = (2, if x / 2 ^ 63 % 2 == 1 then -(val (x % 2 ^ 63) : Int) else (val (x % 2 ^ 63) : Int))) := by
  unfold key Format.read
  have e1 : double.signWeight = 2 ^ 63 := by decide
  have e2 : double.binade = 2 ^ 52 := by decide
  have e3 : double.infRung = 2047 * 2 ^ 52 := by decide
  have e4 : double.leastPlace = -1074 := by decide
  dsimp only
  rw [e1, e2, e3, e4]
  generalize (x / 2 ^ 63 % 2 == 1) = neg
  generalize x % 2 ^ 63 = r
  by_cases h1 : r < 2 ^ 52
  · rw [if_pos h1]
    refine Or.inr (Or.inr ?_)
    have ev : val r = r := by unfold val; rw [if_pos h1]
    have ez : ((-1074 : Int) + 1074).toNat = 0 := by decide
    simp only [dkey, signed, ez, Nat.shiftLeft_zero, ev]
  · rw [if_neg h1]
    by_cases h2 : r < 2047 * 2 ^ 52
    · rw [if_pos h2]
      refine Or.inr (Or.inr ?_)
      have ev : val r = (2 ^ 52 + r % 2 ^ 52) * 2 ^ (r / 2 ^ 52 - 1) := by unfold val; rw [if_neg h1]
      have ez : ((-1074 : Int) + ((r / 2 ^ 52 - 1 : Nat) : Int) + 1074).toNat = r / 2 ^ 52 - 1 := by omega
      simp only [dkey, signed, ez, Nat.shiftLeft_eq, ev]
    · rw [if_neg h2]
      by_cases h3 : r = 2047 * 2 ^ 52
      · rw [if_pos h3]
        exact Or.inr (Or.inl ⟨h3, rfl⟩)
      · rw [if_neg h3]
        exact Or.inl rfl

def zeroW (x : Nat) : Prop := x = 0 ∨ x = 2 ^ 63

theorem word_eq {x y : Nat} (hx : x < 2 ^ 64) (hy : y < 2 ^ 64) (hs : (x / 2 ^ 63 % 2 == 1) = (y / 2 ^ 63 % 2 == 1)) (hr : x % 2 ^ 63 = y % 2 ^ 63) : x = y := by
  have h1 : x / 2 ^ 63 < 2 := by omega
  have h2 : y / 2 ^ 63 < 2 := by omega
  have : x / 2 ^ 63 = y / 2 ^ 63 := by
    cases a : (x / 2 ^ 63 % 2 == 1) <;> rw [a] at hs <;> have hs := hs.symm <;> simp at a hs <;> omega
  omega

theorem zero_of {x : Nat} (hx : x < 2 ^ 64) (hr : x % 2 ^ 63 = 0) : zeroW x := by
  unfold zeroW; omega

theorem key_inj {x y : Nat} (hx : x < 2 ^ 64) (hy : y < 2 ^ 64) (h : key x = key y) (hn : (key x).1 ≠ 0) : x = y ∨ (zeroW x ∧ zeroW y) := by
  rcases key_cases x with a | ⟨a1, a2⟩ | a
  · exact absurd a hn
  · rcases key_cases y with b | ⟨b1, b2⟩ | b
    · rw [h] at hn; exact absurd b hn
    · refine Or.inl (word_eq hx hy ?_ (by rw [a1, b1]))
      rw [a2, b2] at h
      cases s : (x / 2 ^ 63 % 2 == 1) <;> cases t : (y / 2 ^ 63 % 2 == 1) <;> rw [s, t] at h <;> simp at h <;> rfl
    · rw [a2, b] at h
      cases s : (x / 2 ^ 63 % 2 == 1) <;> rw [s] at h <;> simp at h
  · rcases key_cases y with b | ⟨b1, b2⟩ | b
    · rw [h] at hn; exact absurd b hn
    · rw [a, b2] at h
      cases s : (y / 2 ^ 63 % 2 == 1) <;> rw [s] at h <;> simp at h
    · rw [a, b] at h
      have h' := congrArg Prod.snd h
      simp only at h'
      generalize hp : val (x % 2 ^ 63) = p at h'
      generalize hq : val (y % 2 ^ 63) = q at h'
      cases s : (x / 2 ^ 63 % 2 == 1) <;> cases t : (y / 2 ^ 63 % 2 == 1) <;> rw [s, t] at h' <;> simp only [if_true, if_false, Bool.false_eq_true] at h'
      · exact Or.inl (word_eq hx hy (by rw [s, t]) (val_inj (by omega)))
      · exact Or.inr ⟨zero_of hx (val_zero (by omega)), zero_of hy (val_zero (by omega))⟩
      · exact Or.inr ⟨zero_of hx (val_zero (by omega)), zero_of hy (val_zero (by omega))⟩
      · exact Or.inl (word_eq hx hy (by rw [s, t]) (val_inj (by omega)))

/-! ### '+' and '/ 2' respect the key -/
theorem read_zero {x : Nat} (h : zeroW x) : ∃ s, double.read x = .number s 0 (-1074) := by
  rcases h with rfl | rfl
  · exact ⟨false, by decide⟩
  · exact ⟨true, by decide⟩

theorem key_word_zero (s : Bool) : key (double.word s 0) = (2, 0) := by cases s <;> decide

theorem write_zero (s : Bool) (i : Int) : double.write (.number s 0 i) = double.word s 0 := rfl

theorem nan_read {x : Nat} (h : (key x).1 = 0) : ∃ s f, double.read x = .nan s f := by
  unfold key at h
  cases hx : double.read x with
  | nan s f => exact ⟨s, f, rfl⟩
  | infinity s => rw [hx] at h; cases s <;> simp [dkey] at h
  | number s m i => rw [hx] at h; simp [dkey] at h

theorem sum_comm (a b : Datum) : a.sum b = b.sum a := by
  cases a <;> cases b <;> simp only [Datum.sum]
  · rename_i s m i t n j
    rw [Int.min_comm i j, Int.add_comm, Bool.and_comm]
  · rename_i s t
    cases s <;> cases t <;> rfl

theorem add_comm (x y : Nat) : double.add x y = double.add y x := by unfold Format.add; rw [sum_comm]

theorem signed_zero (s : Bool) (k : Nat) : signed s 0 k = 0 := by cases s <;> simp [signed]

theorem add_zeros {x x' : Nat} (y : Nat) (h : zeroW x) (h' : zeroW x') : (double.add x y).map key = (double.add x' y).map key := by
  obtain ⟨s, hs⟩ := read_zero h
  obtain ⟨s', hs'⟩ := read_zero h'
  unfold Format.add
  rw [hs, hs']
  cases hy : double.read y with
  | nan t f => rfl
  | infinity t => rfl
  | number t n j =>
    simp only [Datum.sum, signed_zero, Int.zero_add, Option.map_some]
    by_cases h0 : signed t n (j - min (-1074) j).toNat = 0
    · rw [h0]
      simp only [Int.natAbs_zero, if_pos, write_zero, key_word_zero]
    · rw [if_neg h0, if_neg h0]

theorem add_left {x x' : Nat} (y : Nat) (hx : x < 2 ^ 64) (hx' : x' < 2 ^ 64) (h : key x = key x') : (double.add x y).map key = (double.add x' y).map key := by
  by_cases hn : (key x).1 = 0
  · obtain ⟨s, f, e⟩ := nan_read hn
    obtain ⟨s', f', e'⟩ := nan_read (x := x') (by rw [← h]; exact hn)
    unfold Format.add
    rw [e, e']
    cases double.read y <;> rfl
  · rcases key_inj hx hx' h hn with rfl | ⟨a, b⟩
    · rfl
    · exact add_zeros y a b

/-- '+' respects the key. -/
theorem add_key {x x' y y' : Nat} (hx : x < 2 ^ 64) (hx' : x' < 2 ^ 64) (hy : y < 2 ^ 64) (hy' : y' < 2 ^ 64) (h1 : key x = key x') (h2 : key y = key y') :
    (double.add x y).map key = (double.add x' y').map key := by
  rw [add_left y hx hx' h1, add_comm x' y, add_left x' hy hy' h2, add_comm y' x']

/-- The word of 2. -/
def two : Nat := 4611686018427387904
/-- The word of 1. -/
def one : Nat := 4607182418800017408

theorem read_two : double.read two = .number false (2 ^ 52) (-51) := by decide

/-- '/ 2' respects the key. -/
theorem half_key {x x' : Nat} (hx : x < 2 ^ 64) (hx' : x' < 2 ^ 64) (h : key x = key x') : (double.div x two).map key = (double.div x' two).map key := by
  by_cases hn : (key x).1 = 0
  · obtain ⟨s, f, e⟩ := nan_read hn
    obtain ⟨s', f', e'⟩ := nan_read (x := x') (by rw [← h]; exact hn)
    unfold Format.div
    rw [e, e', read_two]
    rfl
  · rcases key_inj hx hx' h hn with rfl | ⟨a, b⟩
    · rfl
    · obtain ⟨s, hs⟩ := read_zero a
      obtain ⟨s', hs'⟩ := read_zero b
      unfold Format.div
      rw [hs, hs', read_two]
      cases s <;> cases s' <;> decide

theorem half_nan {x : Nat} (h : (key x).1 = 0) : double.div x two = none := by
  obtain ⟨s, f, e⟩ := nan_read h
  unfold Format.div
  rw [e]; rfl

/-- '1 / x' of a zero. -/
theorem inv_zero {x : Nat} (hx : x < 2 ^ 64) (h : eqF x 0 = true) : ∃ r, double.div one x = some r := by
  rw [eqF_key] at h
  simp at h
  rcases key_inj hx (by decide : (0 : Nat) < 2 ^ 64) h.1 h.2 with rfl | ⟨a, -⟩
  · exact Option.isSome_iff_exists.1 (by decide)
  · rcases a with rfl | rfl <;> exact Option.isSome_iff_exists.1 (by decide)
end Go.Proofs.Qxb6601491a.Fl
