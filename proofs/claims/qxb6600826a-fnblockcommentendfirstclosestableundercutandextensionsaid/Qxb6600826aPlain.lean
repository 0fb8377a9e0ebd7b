namespace Go.Proofs.Qxb6600826a.Plain

/-- What the loop of 'blockCommentEnd' finds in the rest 'l' at depth 'd': how many bytes it reads till the comment closes. -/
def scan : List UInt8 → Int → Option Nat
  | a :: b :: r, d =>
    if a = 47 ∧ b = 42 then (scan r (d + 1)).map (· + 2)
    else if a = 42 ∧ b = 47 then (if d - 1 = 0 then some 2 else (scan r (d - 1)).map (· + 2))
    else (scan (b :: r) d).map (· + 1)
  | _, _ => none

/-- What 'blockCommentEnd' answers from place 'i' on. -/
def ans (i : Nat) : Option Nat → Int
  | some n => (i : Int) + n
  | none => -1

/-- What 'blockCommentEnd' answers. -/
def bce (l : List UInt8) : Int := ans 0 (scan l 0)

theorem scan_open (r : List UInt8) (d : Int) : scan (47 :: 42 :: r) d = (scan r (d + 1)).map (· + 2) := by
  simp [scan]

theorem scan_close (r : List UInt8) (d : Int) : scan (42 :: 47 :: r) d = if d - 1 = 0 then some 2 else (scan r (d - 1)).map (· + 2) := by
  simp [scan]

theorem scan_other (a b : UInt8) (r : List UInt8) (d : Int) (h1 : ¬ (a = 47 ∧ b = 42)) (h2 : ¬ (a = 42 ∧ b = 47)) :
    scan (a :: b :: r) d = (scan (b :: r) d).map (· + 1) := by
  rw [scan, if_neg h1, if_neg h2]

/-- A found end: its place, its two bytes; and what comes behind it turns nothing. -/
theorem scan_some : ∀ (k : Nat) (l : List UInt8) (d : Int) (n : Nat), l.length ≤ k → scan l d = some n →
    2 ≤ n ∧ n ≤ l.length ∧ l[n-2]? = some 42 ∧ l[n-1]? = some 47 ∧ ∀ t, scan (l.take n ++ t) d = some n := by
  intro k
  induction k with
  | zero => intro l d n hl h; cases l with
    | nil => simp [scan] at h
    | cons a r => simp at hl
  | succ k ih =>
    intro l d n hl h
    match l, hl, h with
    | [], _, h => simp [scan] at h
    | [a], _, h => simp [scan] at h
    | a :: b :: r, hl, h =>
      simp only [List.length_cons] at hl
      by_cases h1 : a = 47 ∧ b = 42
      · obtain ⟨rfl, rfl⟩ := h1
        rw [scan_open] at h
        obtain ⟨m, hm, rfl⟩ := Option.map_eq_some_iff.1 h
        obtain ⟨g1, g2, g3, g4, g5⟩ := ih r (d + 1) m (by omega) hm
        obtain ⟨m, rfl⟩ : ∃ j, m = j + 2 := ⟨m - 2, by omega⟩
        refine ⟨by omega, by simp only [List.length_cons]; omega, by simpa using g3, by simpa using g4, fun t => ?_⟩
        have := g5 t
        simp only [List.take_succ_cons, List.cons_append, scan_open] at this ⊢
        rw [this]; rfl
      · by_cases h2 : a = 42 ∧ b = 47
        · obtain ⟨rfl, rfl⟩ := h2
          rw [scan_close] at h
          by_cases hd : d - 1 = 0
          · rw [if_pos hd] at h
            obtain rfl : 2 = n := by simpa using h
            refine ⟨by omega, by simp, by simp, by simp, fun t => ?_⟩
            simp only [List.take_succ_cons, List.take_zero, List.cons_append, scan_close, if_pos hd]
          · rw [if_neg hd] at h
            obtain ⟨m, hm, rfl⟩ := Option.map_eq_some_iff.1 h
            obtain ⟨g1, g2, g3, g4, g5⟩ := ih r (d - 1) m (by omega) hm
            obtain ⟨m, rfl⟩ : ∃ j, m = j + 2 := ⟨m - 2, by omega⟩
            refine ⟨by omega, by simp only [List.length_cons]; omega, by simpa using g3, by simpa using g4, fun t => ?_⟩
            have := g5 t
            simp only [List.take_succ_cons, List.cons_append, scan_close, if_neg hd] at this ⊢
            rw [this]; rfl
        · rw [scan_other a b r d h1 h2] at h
          obtain ⟨m, hm, rfl⟩ := Option.map_eq_some_iff.1 h
          obtain ⟨g1, g2, g3, g4, g5⟩ := ih (b :: r) d m (by simp only [List.length_cons]; omega) hm
          obtain ⟨m, rfl⟩ : ∃ j, m = j + 2 := ⟨m - 2, by omega⟩
          refine ⟨by omega, by simp only [List.length_cons] at g2 ⊢; omega, by simpa using g3, by simpa using g4, fun t => ?_⟩
          have := g5 t
          simp only [List.take_succ_cons, List.cons_append] at this ⊢
          rw [scan_other a b _ d h1 h2, this]; rfl

/-- Read at a greater depth, the same text leads on behind its end. -/
theorem scan_deeper : ∀ (k : Nat) (l : List UInt8) (d e : Int) (n : Nat) (t : List UInt8), l.length ≤ k → 1 ≤ e → 1 ≤ d → scan l d = some n →
    scan (l.take n ++ t) (d + e) = (scan t e).map (· + n) := by
  intro k
  induction k with
  | zero => intro l d e n t hl _ _ h; cases l with
    | nil => simp [scan] at h
    | cons a r => simp at hl
  | succ k ih =>
    intro l d e n t hl he hd1 h
    match l, hl, h with
    | [], _, h => simp [scan] at h
    | [a], _, h => simp [scan] at h
    | a :: b :: r, hl, h =>
      simp only [List.length_cons] at hl
      by_cases h1 : a = 47 ∧ b = 42
      · obtain ⟨rfl, rfl⟩ := h1
        rw [scan_open] at h
        obtain ⟨m, hm, rfl⟩ := Option.map_eq_some_iff.1 h
        have g := ih r (d + 1) e m t (by omega) he (by omega) hm
        have e1 : d + e + 1 = d + 1 + e := by omega
        simp only [List.take_succ_cons, List.cons_append, scan_open, e1, g, Option.map_map]
        rfl
      · by_cases h2 : a = 42 ∧ b = 47
        · obtain ⟨rfl, rfl⟩ := h2
          rw [scan_close] at h
          by_cases hd : d - 1 = 0
          · rw [if_pos hd] at h
            obtain rfl : 2 = n := by simpa using h
            have e1 : d + e - 1 = e := by omega
            have e2 : ¬ e = 0 := by omega
            simp only [List.take_succ_cons, List.take_zero, List.cons_append, List.nil_append, scan_close, e1, if_neg e2]
          · rw [if_neg hd] at h
            obtain ⟨m, hm, rfl⟩ := Option.map_eq_some_iff.1 h
            have g := ih r (d - 1) e m t (by omega) he (by omega) hm
            have e1 : d + e - 1 = d - 1 + e := by omega
            have e2 : ¬ d - 1 + e = 0 := by omega
            simp only [List.take_succ_cons, List.cons_append, scan_close, e1, if_neg e2, g, Option.map_map]
            rfl
        · rw [scan_other a b r d h1 h2] at h
          obtain ⟨m, hm, rfl⟩ := Option.map_eq_some_iff.1 h
          have g := ih (b :: r) d e m t (by simp only [List.length_cons]; omega) he hd1 hm
          obtain ⟨g1, -⟩ := scan_some k (b :: r) d m (by simp only [List.length_cons]; omega) hm
          obtain ⟨m, rfl⟩ : ∃ j, m = j + 2 := ⟨m - 2, by omega⟩
          simp only [List.take_succ_cons, List.cons_append] at g ⊢
          rw [scan_other a b _ _ h1 h2, g, Option.map_map]
          rfl

theorem bce_open (l : List UInt8) : bce (47 :: 42 :: l) = ans 2 (scan l 1) := by
  unfold bce
  rw [scan_open]
  cases h : scan l (0 + 1) with
  | none => rw [show (0 : Int) + 1 = 1 from rfl] at h; rw [h]; rfl
  | some n => rw [show (0 : Int) + 1 = 1 from rfl] at h; rw [h]; simp [ans]; omega

theorem bce_range (l : List UInt8) : bce l = -1 ∨ (2 ≤ bce l ∧ bce l ≤ l.length) := by
  unfold bce
  cases h : scan l 0 with
  | none => exact Or.inl rfl
  | some n =>
    obtain ⟨g1, g2, -⟩ := scan_some _ l 0 n (Nat.le_refl _) h
    exact Or.inr ⟨by simp [ans]; omega, by simp [ans]; omega⟩

theorem bce_neg {l : List UInt8} (h : bce l < 0) : bce l = -1 := by
  rcases bce_range l with g | ⟨g, -⟩
  · exact g
  · omega

/-- The answer of a text that closes, at its place. -/
theorem bce_some {l : List UInt8} (h : 0 ≤ bce l) : scan l 0 = some (bce l).toNat := by
  unfold bce at h ⊢
  cases g : scan l 0 with
  | none => rw [g] at h; simp [ans] at h
  | some n => simp [ans]

theorem bce_of_some {l : List UInt8} {n : Nat} (h : scan l 0 = some n) : bce l = n := by
  unfold bce; rw [h]; simp [ans]

/-- A longer text closes where the shorter one does. -/
theorem bce_take_none {l : List UInt8} {k : Nat} (h : bce l = -1 ∨ (k : Int) < bce l) : bce (l.take k) = -1 := by
  rcases bce_range (l.take k) with g | ⟨g1, g2⟩
  · exact g
  · exfalso
    have s1 := bce_some (l := l.take k) (by omega)
    obtain ⟨-, a2, -, -, a5⟩ := scan_some _ (l.take k) 0 _ (Nat.le_refl _) s1
    have s2 := a5 (l.drop (min (bce (List.take k l)).toNat k))
    rw [List.take_take, List.take_append_drop] at s2
    have s3 := bce_of_some s2
    have : (l.take k).length ≤ k := List.length_take_le _ _
    omega

theorem bce_take_self {l : List UInt8} (h : 0 ≤ bce l) : bce (l.take (bce l).toNat) = bce l := by
  obtain ⟨-, -, -, -, a5⟩ := scan_some _ l 0 _ (Nat.le_refl _) (bce_some h)
  have := bce_of_some (a5 [])
  rw [List.append_nil] at this
  rw [this]; omega

theorem bce_append {l : List UInt8} (t : List UInt8) (h : 0 ≤ bce l) : bce (l ++ t) = bce l := by
  obtain ⟨-, -, -, -, a5⟩ := scan_some _ l 0 _ (Nat.le_refl _) (bce_some h)
  have := bce_of_some (a5 (l.drop (bce l).toNat ++ t))
  rw [← List.append_assoc, List.take_append_drop] at this
  rw [this]; omega

theorem bce_bytes {l : List UInt8} (h : 0 ≤ bce l) : l[(bce l).toNat - 2]? = some 42 ∧ l[(bce l).toNat - 1]? = some 47 := by
  obtain ⟨-, -, a3, a4, -⟩ := scan_some _ l 0 _ (Nat.le_refl _) (bce_some h)
  exact ⟨a3, a4⟩

theorem bce_four {l : List UInt8} (h : 0 ≤ bce (47 :: 42 :: l)) : 4 ≤ bce (47 :: 42 :: l) := by
  rw [bce_open] at h ⊢
  cases g : scan l 1 with
  | none => rw [g] at h; simp [ans] at h
  | some n =>
    obtain ⟨g1, -⟩ := scan_some _ l 1 n (Nat.le_refl _) g
    simp [ans]; omega

/-- One whole comment ahead of a text that is read at a depth: it is passed over. -/
theorem scan_whole {body t : List UInt8} (h : 0 ≤ bce (47 :: 42 :: body)) :
    scan ((47 :: 42 :: body : List UInt8).take (bce (47 :: 42 :: body)).toNat ++ t) 1 = (scan t 1).map (· + (bce (47 :: 42 :: body)).toNat) := by
  have h4 := bce_four h
  have s := bce_some h
  rw [scan_open] at s
  obtain ⟨m, hm, e⟩ := Option.map_eq_some_iff.1 s
  rw [← e]
  have g := scan_deeper _ body 1 1 m t (Nat.le_refl _) (by omega) (by omega) hm
  simp only [List.take_succ_cons, List.cons_append, scan_open, g, Option.map_map]
  rfl

theorem nest_one {body tail : List UInt8} (h : 0 ≤ bce (47 :: 42 :: body)) :
    bce (47 :: 42 :: ((47 :: 42 :: body : List UInt8).take (bce (47 :: 42 :: body)).toNat ++ 42 :: 47 :: tail)) = bce (47 :: 42 :: body) + 4 := by
  rw [bce_open, scan_whole h, scan_close]
  simp [ans]; omega

theorem nest_two {body tail : List UInt8} (h : 0 ≤ bce (47 :: 42 :: body)) :
    bce (47 :: 42 :: ((47 :: 42 :: body : List UInt8).take (bce (47 :: 42 :: body)).toNat ++ ((47 :: 42 :: body : List UInt8).take (bce (47 :: 42 :: body)).toNat ++ 42 :: 47 :: tail))) = 2 * bce (47 :: 42 :: body) + 4 := by
  rw [bce_open, scan_whole h, scan_whole h, scan_close]
  simp [ans]; omega

end Go.Proofs.Qxb6600826a.Plain
