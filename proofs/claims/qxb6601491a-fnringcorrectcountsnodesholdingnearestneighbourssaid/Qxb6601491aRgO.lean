/-
  A LOAD TAKEN FIRST IN A DRAWN REGION WHOSE LATER STORES WRITE WHAT IT READ: the condition on the world is asked only while a named later operation (one that waits for the load) has not come up yet. (The kit's Derived/OrdersHeld.lean has the law with ONE condition for the whole region; its small laws on single operations are used here.)
-/
import Derived.OrdersHeld
import Derived.Deep.RegionWith
import Derived.Test.Qxb6601491aNgL
namespace Go.Proofs.Qxb6601491a
open Go

section
variable {P : Program} {ops : Array Oper} {Q : Exit → Act → World → Prop} {md : Region.Mode} {R : Nat → World → Prop}

/-- As long as operation c has not come up R c holds of the world. -/
def HeldR (R : Nat → World → Prop) (listed : Array Bool) (w : World) : Prop := ∀ c, listed.getD c true = false → R c w

/-- Two such conditions. -/
def two (c1 : Nat) (S1 : World → Prop) (c2 : Nat) (S2 : World → Prop) (c : Nat) (w : World) : Prop := (c = c1 → S1 w) ∧ (c = c2 → S2 w)

theorem heldR_two {c1 c2 : Nat} {S1 S2 : World → Prop} {l : Array Bool} {w : World} (h1 : l.getD c1 true = false → S1 w) (h2 : l.getD c2 true = false → S2 w) : HeldR (two c1 S1 c2 S2) l w :=
  fun _ hc => ⟨fun e => h1 (e ▸ hc), fun e => h2 (e ▸ hc)⟩

theorem two_free {c1 c2 i : Nat} {S1 S2 : World → Prop} (h : (i == c1 || i == c2) = false) (w : World) : two c1 S1 c2 S2 i w := by
  simp at h
  exact ⟨fun e => absurd e h.1, fun e => absurd e h.2⟩

def wpAnyR (P : Program) (md : Region.Mode) (ops : Array Oper) (Q : Exit → Act → World → Prop) (R : Nat → World → Prop) : Nat → Array Bool → Act → World → Prop
  | 0, listed, a, w => Region.ready md ops listed = [] ∧ Q .normal a w
  | fuel + 1, listed, a, w =>
    (Region.ready md ops listed = [] → Q .normal a w) ∧
    ∀ i ∈ Region.ready md ops listed, wpOp P ops Q i (fun a' w' => HeldR R (listed.setIfInBounds i true) w' ∧ wpAnyR P md ops Q R fuel (listed.setIfInBounds i true) a' w') a w

theorem wpAny_of_R : ∀ (fuel : Nat) (listed : Array Bool) (a : Act) (w : World), wpAnyR P md ops Q R fuel listed a w → wpAny P md ops Q fuel listed a w
  | 0, _, _, _, h => h
  | fuel + 1, _, _, _, h => ⟨h.1, fun i hi => wpOp_mono (fun a' w' h' => wpAny_of_R fuel _ a' w' h'.2) (h.2 i hi)⟩

/-- Who has come up has waited for nobody that has not. -/
theorem up_waits {l : Array Bool} {i j : Nat} {oj : Oper} (hj : j ∈ Region.ready md ops l) (hoj : ops[j]? = some oj) (hun : l.getD i true = false) {e : Edge} (he : e ∈ oj.after) (hb : Region.binds md e = true) : e.on ≠ i := by
  rintro rfl
  obtain ⟨-, o, ho, hall⟩ := mem_ready.1 hj
  cases ho.symm.trans hoj
  have hon := hall e he hb
  cases hv : l[e.on]? with
  | none => simp [hv] at hon
  | some b => simp [hv] at hon hun; rw [hon] at hun; cases hun

/-- What is asked of the world does not hang on whether i has come up, where nothing is asked for i's sake. -/
theorem heldR_set {i : Nat} (hRi : ∀ w, R i w) {l : Array Bool} {w : World} : HeldR R (l.setIfInBounds i true) w ↔ HeldR R l w := by
  constructor <;> intro h c hc <;> by_cases e : i = c
  · exact e ▸ hRi w
  · exact h c ((getD_set_ne true e).trans hc)
  · exact e ▸ hRi w
  · exact h c ((getD_set_ne true e).symm.trans hc)

/-- WHAT TAKING i FIRST ASKS, at a state of the region. 'inv' is what is known of who has come up; under it the world meets S. -/
structure First (P : Program) (md : Region.Mode) (ops : Array Oper) (R : Nat → World → Prop) (S : World → Prop) (inv : Array Bool → Prop) (i : Nat) (oi : Oper) (v : Value) (l : Array Bool) (a : Act) (w : World) : Prop where
  free : ∀ j oj, ops[j]? = some oj → j ≠ i → l.getD j true = false → (∀ e ∈ oj.after, Region.binds md e = true → e.on ≠ i) → oi.apart ops oj = true
  up : i ∈ Region.ready md ops l
  yields : YieldsIf P ops S oi v a
  known : inv l
  world : HeldR R l w

theorem wpAnyR_first {i : Nat} {oi : Oper} {v : Value} {S : World → Prop} {inv : Array Bool → Prop} (hi : ops[i]? = some oi) (hsel : ∀ (j : Nat) (o : Oper) cs b, ops[j]? = some o → o.op ≠ .select cs b)
    (hQ : ∀ c a w, Q (.panic c) (a.put oi.dst v) w → Q (.panic c) a w)
    (hinv : ∀ l j, inv l → j ∈ Region.ready md ops l → j ≠ i → l.getD i true = false → inv (l.setIfInBounds j true)) (hS : ∀ l w, inv l → HeldR R l w → S w) (hRi : ∀ w, R i w) :
    ∀ (fuel : Nat) (l : Array Bool) (a : Act) (w : World), First P md ops R S inv i oi v l a w → wpAnyR P md ops Q R fuel (l.setIfInBounds i true) (a.put oi.dst v) w → wpAnyR P md ops Q R (fuel + 1) l a w := by
  have now : ∀ {fuel : Nat} {l : Array Bool} {a : Act} {w : World}, First P md ops R S inv i oi v l a w → wpAnyR P md ops Q R fuel (l.setIfInBounds i true) (a.put oi.dst v) w →
      wpOp P ops Q i (fun a' w' => HeldR R (l.setIfInBounds i true) w' ∧ wpAnyR P md ops Q R fuel (l.setIfInBounds i true) a' w') a w := fun F H => F.yields.wpOp hi (hS _ _ F.known F.world) ⟨(heldR_set hRi).2 F.world, H⟩
  have some' : ∀ {l : Array Bool} {a : Act} {w : World} {p : Prop}, First P md ops R S inv i oi v l a w → Region.ready md ops l = [] → p := fun F h => absurd (h ▸ F.up) (by simp)
  intro fuel
  induction fuel with
  | zero =>
    refine fun l a w F H => ⟨some' F, fun j hj => ?_⟩
    by_cases hji : j = i
    · exact hji ▸ now F H
    · exact absurd (H.1 ▸ ready_mono hj hji) (by simp)
  | succ fuel ih =>
    refine fun l a w F H => ⟨some' F, fun j hj => ?_⟩
    by_cases hji : j = i
    · exact hji ▸ now F H
    · obtain ⟨hjun, oj, hoj, -⟩ := mem_ready.1 hj
      have hiun := (mem_ready.1 F.up).1
      have swap : (l.setIfInBounds i true).setIfInBounds j true = (l.setIfInBounds j true).setIfInBounds i true := (Array.setIfInBounds_comm _ _ hji).symm
      refine wpOp_mono (fun a' w' h => ?_) (wpOp_putIf hoj (F.free j oj hoj hji hjun fun e he hb => up_waits hj hoj hiun he hb) (fun cs b => hsel i oi cs b hi) (fun cs b => hsel j oj cs b hoj) hQ F.yields (H.2 j (ready_mono hj hji)))
      obtain ⟨hy, hH, hrest⟩ := h
      rw [swap] at hH hrest
      have hH' := (heldR_set hRi).1 hH
      refine ⟨hH', ih _ a' w' ⟨fun k ok hk hki hun => F.free k ok hk hki ?_, ready_mono F.up (Ne.symm hji), hy, hinv _ _ F.known hj hji hiun, hH'⟩ hrest⟩
      by_cases hjk : j = k
      · exact hjk ▸ hjun
      · exact (getD_set_ne true hjk).symm.trans hun

/-- A load, taken first: operation c waits for it, and while c has not come up the world meets S. -/
theorem wpAnyR_load {i c : Nat} {oi oc : Oper} {v : Value} {S : World → Prop} {fuel : Nat} {listed : Array Bool} {a : Act} {w : World} (hi : ops[i]? = some oi) (hc : ops[c]? = some oc) (hwait : (oc.after.any fun e => Region.binds md e && e.on == i) = true)
    (hRS : ∀ w, R c w → S w) (hRi : ∀ w, R i w)
    (hs : Region.noSelect ops = true) (hf : Region.free md ops listed i = true) (hr : (Region.ready md ops listed).contains i = true) (hcu : listed.getD c true = false)
    (hQ : ∀ c a w, Q (.panic c) (a.put oi.dst v) w → Q (.panic c) a w) (hy : YieldsIf P ops S oi v a) (hH : HeldR R listed w)
    (h : wpAnyR P md ops Q R fuel (listed.setIfInBounds i true) (a.put oi.dst v) w) : wpAnyR P md ops Q R (fuel + 1) listed a w :=
  wpAnyR_first (inv := fun l => l.getD c true = false) hi (Region.noSelect_spec hs) hQ (fun l j hl hj _ hiun => by
    have hjc : j ≠ c := fun e => by
      obtain ⟨d, hd, hb⟩ := Array.any_eq_true'.1 hwait
      rw [Bool.and_eq_true, beq_iff_eq] at hb
      exact up_waits hj (e ▸ hc) hiun hd hb.1 hb.2
    rw [getD_set_ne true hjc]; exact hl) (fun l w hl hH => hRS w (hH c hl)) hRi fuel listed a w ⟨Region.free_spec hi hf, by simpa using hr, hy, hcu, hH⟩ h

/-- What yields in whatever world, taken first. -/
theorem wpAnyR_pure {i : Nat} {oi : Oper} {v : Value} {fuel : Nat} {listed : Array Bool} {a : Act} {w : World} (hi : ops[i]? = some oi) (hRi : ∀ w, R i w)
    (hs : Region.noSelect ops = true) (hf : Region.free md ops listed i = true) (hr : (Region.ready md ops listed).contains i = true)
    (hQ : ∀ c a w, Q (.panic c) (a.put oi.dst v) w → Q (.panic c) a w) (hy : Yields P ops oi v a) (hH : HeldR R listed w)
    (h : wpAnyR P md ops Q R fuel (listed.setIfInBounds i true) (a.put oi.dst v) w) : wpAnyR P md ops Q R (fuel + 1) listed a w :=
  wpAnyR_first (inv := fun _ => True) (S := fun _ => True) hi (Region.noSelect_spec hs) hQ (fun _ _ _ _ _ _ => trivial) (fun _ _ _ _ => trivial) hRi fuel listed a w ⟨Region.free_spec hi hf, by simpa using hr, hy.yieldsIf, trivial, hH⟩ h

/-- Whichever comes up. -/
def AllReadyR (P : Program) (md : Region.Mode) (ops : Array Oper) (Q : Exit → Act → World → Prop) (R : Nat → World → Prop) (fuel : Nat) (listed : Array Bool) (a : Act) (w : World) (rs : List Nat) : Prop :=
  ∀ i ∈ rs, wpOp P ops Q i (fun a' w' => HeldR R (listed.setIfInBounds i true) w' ∧ wpAnyR P md ops Q R fuel (listed.setIfInBounds i true) a' w') a w

theorem AllReadyR.nil {fuel : Nat} {listed : Array Bool} {a : Act} {w : World} : AllReadyR P md ops Q R fuel listed a w [] := fun _ h => by cases h

/-- The way back, hidden from 'simp'. -/
def Back (p : Prop) : Prop := p
theorem Back.out {p : Prop} (h : Back p) : p := h

theorem AllReadyR.cons {fuel : Nat} {listed : Array Bool} {a : Act} {w : World} {i : Nat} {o : Oper} {rs : List Nat} (ho : ops[i]? = some o)
    (h : ∀ K' : Act → World → Prop, Back (∀ a w, HeldR R (listed.setIfInBounds i true) w → wpAnyR P md ops Q R fuel (listed.setIfInBounds i true) a w → K' a w) → if Region.wanted o (yielded ops a.tmps) = true then Oper.wp P o a w K' Q else K' (a.put o.dst undef) w)
    (hs : AllReadyR P md ops Q R fuel listed a w rs) : AllReadyR P md ops Q R fuel listed a w (i :: rs) := fun j hj => by
  rcases List.mem_cons.1 hj with rfl | hj
  · exact wpOp_step ho fun K' hK => h K' fun a w h1 h2 => hK a w ⟨h1, h2⟩
  · exact hs j hj

theorem wpAnyR_ready {rs : List Nat} {fuel : Nat} {listed : Array Bool} {a : Act} {w : World} (hr : Region.ready md ops listed = rs) (hne : rs ≠ [])
    (h : AllReadyR P md ops Q R fuel listed a w rs) : wpAnyR P md ops Q R (fuel + 1) listed a w :=
  ⟨fun h0 => absurd (hr ▸ h0) hne, hr ▸ h⟩

theorem wpAnyR_done {listed : Array Bool} {a : Act} {w : World} (hr : Region.ready md ops listed = []) (h : Q .normal a w) : ∀ fuel, wpAnyR P md ops Q R fuel listed a w
  | 0 => ⟨hr, h⟩
  | _ + 1 => ⟨fun _ => h, by rw [hr]; simp⟩

/-- THE BEGINNING. -/
theorem wp_region_R {id : Nat} {a : Act} {w : World} (R : Nat → World → Prop) (hm : P.follows .mixedOrders = true)
    (h : wpAnyR P .any ops Q R ops.size (Array.replicate ops.size false) a w.drew) : (Code.region id ops true).wp P Q a w :=
  wp_region_any hm (wpAny_of_R _ _ _ _ h)
end
end Go.Proofs.Qxb6601491a
