/-
  ADDRESSES AND LISTS THAT CAME IN, OPENED AS THE WALKS WANT THEM.
-/
import Derived.Test.Qxb6601491aRgP
import Derived.Test.Qxb6601491aNgT
namespace Go.Proofs.Qxb6601491a
open Go.RowKit
open Go.Extern.Stop (cell)

section
variable {H : Type} {enc : TypeId × Value → H} {W : World} {base : Nat} {held : Bool} {sp : Nat → Bool} {fuel : Nat} {x : DataW H × List MemPlace}

theorem Try.c41 : Try.prog.cellsOf 41 = 1 := by kernel_rfl
theorem Try.c3 : Try.prog.cellsOf 3 = 1 := by kernel_rfl

theorem range_of20 {b o i : Nat} {cs : List Value} (h : W.cells? base ((⟨b, o, none⟩ : Addr).add (i * 20)) 20 = some cs) : W.rangeAt b (o + i * 20) cs := fun j v hv => by
  obtain ⟨-, hl, hc⟩ := World.cells?_some h
  have hj : j < 20 := by have := (List.getElem?_eq_some_iff.1 hv).1; omega
  have := hc j hj
  rw [Go.Deep.add_add, hv, Addr.add_mid] at this
  rw [Nat.add_assoc]; exact this

theorem spot_cell {ad : Addr} {v : Value} (h : W.cell? (ad.add 0) = some v) : ∃ b o, ad = ⟨b, o, none⟩ := by
  obtain ⟨b, off, st⟩ := ad
  cases st with
  | none => exact ⟨b, off, rfl⟩
  | some st =>
    simp only [Addr.add, World.cell?, if_true, Option.isSome_some] at h
    split at h <;> cases h

theorem open_adrs {a : Option Addr} {n cap : Nat} (h : DataW.trod enc Try.prog W base sp held fuel 51 [.slice a n cap] = some x) : ∃ A, AdrAt W a n A ∧ n ≤ maxLen ∧ (a = none → n = 0 ∧ cap = 0) := by
  rcases Go.Deep.open_slice Try.underlying51 h with ⟨hcs, -⟩ | ⟨ad, len, cap', m, n', D, Pl, hcs, -, hl, hm, hmm, -, hx⟩
  · cases hcs
    exact ⟨fun _ => [], .inl rfl, by unfold maxLen; omega, fun _ => ⟨rfl, rfl⟩⟩
  · cases hcs
    have hlm : n ≤ m := by rw [hmm]; split <;> omega
    rw [Try.c33] at hx
    by_cases h0 : n = 0
    · exact ⟨fun _ => [], .inl h0, by omega, (fun e => by cases e)⟩
    · obtain ⟨cs0, h1, -⟩ := hx 0 (by omega)
      obtain ⟨b, o, rfl⟩ : ∃ b o, ad = ⟨b, o, none⟩ := by
        obtain ⟨-, hl0, hc0⟩ := World.cells?_some h1
        have := hc0 0 (by omega)
        rw [List.getElem?_eq_getElem (by omega), Go.Deep.add_add] at this
        exact spot_cell this
      obtain ⟨F, hF⟩ := @Go.Deep.choose_lt (List UInt8) ⟨[]⟩ n (fun i xs => xs.length = 20 ∧ W.rangeAt b (o + i * 20) (xs.map cell)) (fun i hi => by
        obtain ⟨cs', h1, h2⟩ := hx i (by omega)
        obtain ⟨xs, hxs, rfl⟩ := open_addr h2
        exact ⟨xs, hxs, range_of20 h1⟩)
      exact ⟨F, .inr ⟨b, o, rfl, hF⟩, by omega, (fun e => by cases e)⟩

theorem open_list {v : Value} (h : DataW.trod enc Try.prog W base sp held fuel 41 [v] = some x) : ∃ zs, LstAt W v zs := by
  rcases Go.Deep.open_slice1 Try.underlying41 Try.c3 h with ⟨hcs, -⟩ | ⟨ad, len, cap, m, n, V, D, Pl, hcs, -, hl, hm, hmm, -, hx⟩
  · cases hcs
    exact ⟨[], none, 0, rfl, by simp [maxLen], fun _ => rfl, .inl rfl⟩
  · cases hcs
    have hlm : len ≤ m := by rw [hmm]; split <;> omega
    by_cases h0 : len = 0
    · subst h0
      exact ⟨[], some ad, cap, rfl, by simp [maxLen], (fun e => by cases e), .inl rfl⟩
    · obtain ⟨F, hF⟩ := @Go.Deep.choose_lt Int ⟨0⟩ len (fun i z => W.cell? (ad.add i) = some (.int .i64 z)) (fun i hi => by
        obtain ⟨h1, h2⟩ := hx i (by omega)
        obtain ⟨z, hz, -, -⟩ := DataW.trod_int Try.underlying3 h2
        simp at hz
        exact ⟨z, by rw [h1, hz]⟩)
      obtain ⟨b, o, rfl⟩ := spot_cell (hF 0 (by omega))
      refine ⟨(List.range len).map F, some ⟨b, o, none⟩, cap, by simp, by simp; omega, (fun e => by cases e), .inr ⟨b, o, rfl, fun k hk => ?_⟩⟩
      have hk' : k < len := by simpa using hk
      have := hF k hk'
      rw [Addr.add_mid] at this
      rw [this]; simp

theorem open_lists {b : Option Addr} {m cap : Nat} (h : DataW.trod enc Try.prog W base sp held fuel 27 [.slice b m cap] = some x) : ∃ L vs, LstsAt W b m L vs ∧ m ≤ maxLen ∧ (b = none → m = 0 ∧ cap = 0) := by
  rcases Go.Deep.open_slice1 Try.underlying27 Try.c41 h with ⟨hcs, -⟩ | ⟨ad, len, cap', k, n, V, D, Pl, hcs, -, hl, hm, hmm, -, hx⟩
  · cases hcs
    exact ⟨fun _ => [], fun _ => undef, .inl rfl, by unfold maxLen; omega, fun _ => ⟨rfl, rfl⟩⟩
  · cases hcs
    have hlm : m ≤ k := by rw [hmm]; split <;> omega
    by_cases h0 : m = 0
    · exact ⟨fun _ => [], fun _ => undef, .inl h0, by omega, (fun e => by cases e)⟩
    · obtain ⟨b, o, rfl⟩ := spot_cell (hx 0 (by omega)).1
      obtain ⟨F, hF⟩ := @Go.Deep.choose_lt (List Int) ⟨[]⟩ m (fun i zs => LstAt W (V i) zs) (fun i hi => open_list (hx i (by omega)).2)
      refine ⟨F, V, .inr ⟨b, o, rfl, fun i hi => ⟨?_, hF i hi⟩⟩, by omega, (fun e => by cases e)⟩
      have := (hx i (by omega)).1
      rwa [Addr.add_mid] at this
end
end Go.Proofs.Qxb6601491a
