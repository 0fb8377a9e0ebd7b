/-
  A SNAPSHOT THAT CAME IN, OPENED AS THE WALKS WANT IT.
-/
import Derived.Test.Qxb6601491aNgS
import Derived.ProofKit
import Derived.OpenShut
import Derived.Deep.Slices
import Derived.Deep.Strs
namespace Go.Proofs.Qxb6601491a
open Go.RowKit
open Go.Extern.Stop (cell)

def noEdge : EdgeD := ⟨[], 0, false⟩
def noNode : NodeD := ⟨[], ByteArray.empty, 0, fun _ => noEdge⟩

section
variable {H : Type} {enc : TypeId × Value → H} {W : World} {base : Nat} {held : Bool} {sp : Nat → Bool} {fuel : Nat} {x : DataW H × List MemPlace}

theorem cell_of {n : Int} (h : (Lit.int .u8 n).wf = true) : ∃ b : UInt8, Value.int .u8 n = cell b := by
  simp [Lit.wf, IntKind.min, IntKind.max, IntKind.signed, IntKind.bits] at h
  refine ⟨UInt8.ofNat n.toNat, ?_⟩
  unfold cell
  congr 1
  simp
  omega

theorem open_cells : ∀ (cs : List Value), (∀ i, i < cs.length → ∃ b : UInt8, cs[i]? = some (cell b)) → ∃ xs : List UInt8, cs = xs.map cell
  | [], _ => ⟨[], rfl⟩
  | c :: cs, h => by
    obtain ⟨b, hb⟩ := h 0 (by simp)
    obtain ⟨xs, hx⟩ := open_cells cs fun i hi => by
      obtain ⟨b, hb⟩ := h (i + 1) (by simpa using hi)
      exact ⟨b, by simpa using hb⟩
    simp at hb
    exact ⟨b :: xs, by rw [hb, hx]; rfl⟩

theorem Try.c33 : Try.prog.cellsOf 33 = 20 := by kernel_rfl
theorem Try.c5 : Try.prog.cellsOf 5 = 1 := by kernel_rfl
theorem Try.c4 : Try.prog.cellsOf 4 = 1 := by kernel_rfl
theorem Try.c9 : Try.prog.cellsOf 9 = 1 := by kernel_rfl
theorem Try.c35 : Try.prog.cellsOf 35 = 1 := by kernel_rfl
theorem Try.c68 : Try.prog.cellsOf 68 = 22 := by kernel_rfl
theorem Try.c37 : Try.prog.cellsOf 37 = 22 := by kernel_rfl

theorem open_addr {cs : List Value} (h : DataW.trod enc Try.prog W base sp held fuel 33 cs = some x) : ∃ xs : List UInt8, xs.length = 20 ∧ cs = xs.map cell := by
  obtain ⟨xs, m, -, -, hl, hn, he⟩ := DataW.trod_array Try.underlying33 h
  rw [Try.c33] at hl
  obtain ⟨ys, hy⟩ := open_cells cs fun i hi => by
    have := he i (by omega)
    rw [Try.c5, Nat.mul_one, List.getElem?_eq_getElem (by omega)] at this
    obtain ⟨n, hc, -, hw⟩ := DataW.trod_int Try.underlying5 this
    obtain ⟨b, hb⟩ := cell_of hw
    refine ⟨b, ?_⟩
    rw [← hb]
    have := congrArg (fun l => l[0]?) hc
    simpa using this
  exact ⟨ys, by rw [hy] at hl; simpa using hl, hy⟩

theorem split3 {cs : List Value} (hl : cs.length = 22) {a : List Value} {u v : Value} (h0 : (cs.drop 0).take 20 = a) (h1 : (cs.drop 20).take 1 = [u]) (h2 : (cs.drop 21).take 1 = [v]) : cs = a ++ [u, v] := by
  obtain ⟨u', v', hd⟩ : ∃ u' v', cs.drop 20 = [u', v'] := by
    have : (cs.drop 20).length = 2 := by simp [hl]
    match hh : cs.drop 20, this with
    | [p, q], _ => exact ⟨p, q, rfl⟩
  rw [show cs.drop 21 = (cs.drop 20).drop 1 by rw [List.drop_drop], hd] at h2
  rw [hd] at h1
  simp at h1 h2
  rw [← List.take_append_drop 20 cs, hd, ← h0, h1, h2]; simp

theorem open_edge {cs : List Value} (h : DataW.trod enc Try.prog W base sp held fuel 68 cs = some x) : ∃ e : EdgeD, e.addr.length = 20 ∧ cs = edgeCells e := by
  obtain ⟨y0, y1, y2, m, -, hl, h0, h1, h2⟩ := Go.Deep.trod_struct3 Try.underlying68 h
  rw [Try.c68] at hl
  simp only [Try.c33, Try.c5, Try.c4] at h0 h1 h2
  obtain ⟨xs, hx, e0⟩ := open_addr h0
  obtain ⟨n, e1, -, -⟩ := DataW.trod_int Try.underlying5 h1
  obtain ⟨b, e2, -⟩ := DataW.trod_bool Try.underlying4 h2
  exact ⟨⟨xs, n, b⟩, hx, split3 hl e0 e1 e2⟩

/-- A range, out of the reader's cells. -/
theorem range_of {b o i : Nat} {cs : List Value} (h : W.cells? base ((⟨b, o, none⟩ : Addr).add (i * 22)) 22 = some cs) : W.rangeAt b (o + i * 22) cs := fun j v hv => by
  obtain ⟨-, hl, hc⟩ := World.cells?_some h
  have hj : j < 22 := by have := (List.getElem?_eq_some_iff.1 hv).1; omega
  have := hc j hj
  rw [Go.Deep.add_add, hv, Addr.add_mid] at this
  rw [Nat.add_assoc]; exact this

theorem spot_of {ad : Addr} {cs : List Value} (h : W.cells? base (ad.add (0 * 22)) 22 = some cs) : ∃ b o, ad = ⟨b, o, none⟩ := by
  obtain ⟨-, hl, hc⟩ := World.cells?_some h
  obtain ⟨b, off, st⟩ := ad
  cases st with
  | none => exact ⟨b, off, rfl⟩
  | some st =>
    have h00 := hc 0 (by omega)
    rw [List.getElem?_eq_getElem (by omega)] at h00
    simp only [Nat.zero_mul, Addr.add, World.cell?, if_true, Option.isSome_some] at h00
    split at h00 <;> cases h00

theorem open_edges {cs : List Value} (h : DataW.trod enc Try.prog W base sp held fuel 35 cs = some x) : ∃ v ne E, cs = [v] ∧ EdgesAt W v ne E := by
  rcases Go.Deep.open_slice Try.underlying35 h with ⟨hcs, -⟩ | ⟨ad, len, cap, m, n, D, Pl, hcs, -, hl, hm, hmm, -, hx⟩
  · exact ⟨_, 0, fun _ => noEdge, hcs, none, 0, rfl, fun _ => rfl, by unfold maxLen; omega, .inl rfl⟩
  · have hlm : len ≤ m := by rw [hmm]; split <;> omega
    rw [Try.c68] at hx
    by_cases h0 : len = 0
    · exact ⟨_, len, fun _ => noEdge, hcs, some ad, cap, rfl, (fun e => by cases e), by omega, .inl h0⟩
    · obtain ⟨_, h1, -⟩ := hx 0 (by omega)
      obtain ⟨b, o, rfl⟩ := spot_of h1
      obtain ⟨F, hF⟩ := @Go.Deep.choose_lt EdgeD ⟨noEdge⟩ len (fun i e => e.addr.length = 20 ∧ W.rangeAt b (o + i * 22) (edgeCells e)) (fun i hi => by
        obtain ⟨cs', h1, h2⟩ := hx i (by omega)
        obtain ⟨e, he, rfl⟩ := open_edge h2
        exact ⟨e, he, range_of h1⟩)
      exact ⟨_, len, F, hcs, _, cap, rfl, (fun e => by cases e), by omega, .inr ⟨b, o, rfl, hF⟩⟩

theorem open_node {cs : List Value} (h : DataW.trod enc Try.prog W base sp held fuel 37 cs = some x) : ∃ (d : NodeD) (v : Value), d.addr.length = 20 ∧ cs = nodeCells d v ∧ EdgesAt W v d.ne d.edges := by
  obtain ⟨y0, y1, y2, m, -, hl, h0, h1, h2⟩ := Go.Deep.trod_struct3 Try.underlying37 h
  rw [Try.c37] at hl
  simp only [Try.c33, Try.c9, Try.c35] at h0 h1 h2
  obtain ⟨xs, hx, e0⟩ := open_addr h0
  obtain ⟨s, e1, -, -⟩ := DataW.trod_string Try.underlying9 h1
  obtain ⟨v, ne, E, e2, hE⟩ := open_edges h2
  exact ⟨⟨xs, s, ne, E⟩, v, hx, split3 hl e0 e1 e2, hE⟩

/-- What the walks are told of a snapshot that came in. -/
def IsSnap (w : World) (a : Option Addr) (n cap : Nat) (D : Nat → NodeD) (vs : Nat → Value) : Prop := NodesAt w a n D vs ∧ n ≤ maxLen ∧ (a = none → cap = 0)

theorem open_nodes {a : Option Addr} {n cap : Nat} (h : DataW.trod enc Try.prog W base sp held fuel 22 [.slice a n cap] = some x) : ∃ D vs, IsSnap W a n cap D vs := by
  rcases Go.Deep.open_slice Try.underlying22 h with ⟨hcs, -⟩ | ⟨ad, len, cap', m, n', D, Pl, hcs, -, hl, hm, hmm, -, hx⟩
  · cases hcs
    exact ⟨fun _ => noNode, fun _ => undef, .inl rfl, by unfold maxLen; omega, fun _ => rfl⟩
  · cases hcs
    have hlm : n ≤ m := by rw [hmm]; split <;> omega
    rw [Try.c37] at hx
    by_cases h0 : n = 0
    · exact ⟨fun _ => noNode, fun _ => undef, .inl h0, by omega, (fun e => by cases e)⟩
    · obtain ⟨_, h1, -⟩ := hx 0 (by omega)
      obtain ⟨b, o, rfl⟩ := spot_of h1
      obtain ⟨F, hF⟩ := @Go.Deep.choose_lt (NodeD × Value) ⟨(noNode, undef)⟩ n (fun i e => e.1.addr.length = 20 ∧ W.rangeAt b (o + i * 22) (nodeCells e.1 e.2) ∧ EdgesAt W e.2 e.1.ne e.1.edges) (fun i hi => by
        obtain ⟨cs', h1, h2⟩ := hx i (by omega)
        obtain ⟨d, v, hd, rfl, hE⟩ := open_node h2
        exact ⟨(d, v), hd, range_of h1, hE⟩)
      exact ⟨fun i => (F i).1, fun i => (F i).2, .inr ⟨b, o, rfl, hF⟩, by omega, (fun e => by cases e)⟩
end
end Go.Proofs.Qxb6601491a
