/-
  A SLICE OF STRINGS THAT CAME IN, OPENED AS THE WALKS WANT IT.
-/
import Derived.Test.Qxb6601888aLawA
import Derived.ProofKit
import Derived.Deep.Slices
namespace Go.Proofs.Qxb6601888a

/-- What the walks are told of a slice of strings that came in. -/
def IsRow (w : World) (a : Option Addr) (len cap : Nat) (G : Nat → ByteArray) : Prop := Strs w a len G ∧ len ≤ maxLen ∧ (a = none → cap = 0)

theorem open_strs {H : Type} {enc : TypeId × Value → H} {W : World} {base : Nat} {held : Bool} {fuel : Nat} {a : Option Addr} {len cap : Nat} {x : DataW H × List MemPlace}
    (h : DataW.trod enc Try.prog W base (fun _ => true) held fuel 28 [.slice a len cap] = some x) : ∃ G, IsRow W a len cap G := by
  rcases Go.Deep.open_slice1 Try.underlying28 (by kernel_rfl) h with ⟨hcs, _⟩ | ⟨ad, l, c, m, n, V, D, Pl, hcs, _, hl, hm, hmm, _, hx⟩
  · cases hcs
    exact ⟨fun _ => ByteArray.empty, .inl rfl, by unfold maxLen; omega, fun _ => rfl⟩
  · cases hcs
    have hlm : len ≤ m := by rw [hmm]; simpa using hl
    by_cases h0 : len = 0
    · exact ⟨fun _ => ByteArray.empty, .inl h0, by omega, fun e => by cases e⟩
    · obtain ⟨F, hF⟩ := Go.Deep.choose_lt (α := ByteArray) (p := fun i b => W.cell? (ad.add i) = some (.string b)) (n := len) (fun i hi => by
        obtain ⟨h1, h2⟩ := hx i (by omega)
        obtain ⟨b, hb, _⟩ := DataW.trod_string Try.underlying9 h2
        simp at hb
        exact ⟨b, by rw [h1, hb]⟩)
      have h00 := hF 0 (by omega)
      obtain ⟨b, off, st⟩ := ad
      cases st with
      | none =>
        refine ⟨F, .inr ⟨b, off, rfl, fun t ht => ?_⟩, by omega, fun e => by cases e⟩
        have h := hF t ht
        rwa [show (⟨b, off, none⟩ : Addr).add t = ⟨b, off + t, none⟩ by cases t <;> simp [Addr.add]] at h
      | some st =>
        simp only [Addr.add, World.cell?, if_true, Option.isSome_some] at h00
        split at h00 <;> cases h00
end Go.Proofs.Qxb6601888a
