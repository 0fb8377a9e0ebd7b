/-
  zzCloneAddrs, zzToAddrs, walked.
-/
import Derived.Test.Qxb6601491aRgE
import Derived.Test.Qxb6601491aNgG
namespace Go.Proofs.Qxb6601491a
open Go.RowKit
open Go.Extern.Stop (cell)

attribute [local go_sem ↓] ld33 st33 ld34 st34

/-- A row of n addresses at block T0, the first i of them laid. -/
structure ARw (T0 : Nat) (ty : TypeId) (n i : Nat) (A : Nat → List UInt8) (w0 w : World) : Prop where
  below : Below T0 w0 w
  row : ∃ cur, w.heap[T0]? = some (.cells cur ty (0, 0)) ∧ cur.size = n * 20
  done : ∀ j, j < i → w.rangeAt T0 (j * 20) ((A j).map cell)

section
variable {T0 : Nat} {ty : TypeId} {n i : Nat} {A : Nat → List UInt8} {w0 w w' : World}

theorem ARw.made {w w1 : World} {ty : TypeId} {n : Nat} {xs : List Value} {A : Nat → List UInt8} (hown : w1.ownsRow w.heap.size ty 20 (.slice (some ⟨w.heap.size, 0, none⟩) n n) n xs) (hgrow : w.grownBy w1 none) : ARw w.heap.size ty n 0 A w w1 := by
  refine ⟨(Below.refl _ _).grown hgrow (Nat.le_refl _) (fun k hk => by cases hk), ?_, fun j hj => absurd hj (Nat.not_lt_zero _)⟩
  rcases hown.2 with ⟨h, _⟩ | ⟨g, cap, cur, h, _, hg, _, _, hs, _⟩
  · cases h
  · cases h
    exact ⟨cur, hg, hs⟩

theorem ARw.there (h : ARw T0 ty n i A w0 w) (j : Nat) (hj : j < n) : w.there T0 (j * 20) 20 := fun k hk => by
  obtain ⟨cur, h1, h2⟩ := h.row
  have : j * 20 + k < cur.size := by rw [h2]; omega
  constructor
  · simp [World.cell?, h1, this]
  · simp [World.frozen?, h1]

theorem ARw.put (h : ARw T0 ty n i A w0 w) (hi : i < n) (hC : ∀ j, j < n → (A j).length = 20) : ARw T0 ty n (i + 1) A w0 (w.setCells T0 (i * 20) ((A i).map cell)) := by
  refine ⟨Below.setCells (Nat.le_refl _) _ _ _ h.below, ?_, fun j hj => ?_⟩
  · obtain ⟨cur, h1, h2⟩ := h.row
    obtain ⟨c, h3, h4⟩ := heap_setCells_same ((A i).map cell) (i * 20) w cur h1
    exact ⟨c, h3, by rw [h4, h2]⟩
  · by_cases e : j = i
    · subst e
      exact World.rangeAt_setCells_same _ _ _ _ (by rw [List.length_map, hC j hi]; exact h.there j hi)
    · refine World.rangeAt_setCells_apart (h.done j (by omega)) _ _ _ (.inr ?_)
      rw [List.length_map, List.length_map, hC j (by omega), hC i hi]
      omega
end

theorem Try.info33' : (Try.prog.info? 33).map (fun i => (i.size, i.bytes)) = some (20, 20) := by kernel_rfl
theorem Try.zero33' : ((Try.prog.info? 33).bind (·.zero)).isSome = true := by kernel_rfl
theorem Try.info34' : (Try.prog.info? 34).map (fun i => (i.size, i.bytes)) = some (20, 20) := by kernel_rfl
theorem Try.zero34' : ((Try.prog.info? 34).bind (·.zero)).isSome = true := by kernel_rfl

set_option maxHeartbeats 1000000 in
set_option maxRecDepth 100000 in
/-- 'zzCloneAddrs'. -/
theorem cloneA_zz (a : Option Addr) (n cap : Nat) (A : Nat → List UInt8) (w : World) (hn : n ≤ 4096) (hA : AdrAt w a n A) (ha : a = none → n = 0 ∧ cap = 0) :
    Calls Try.prog 22 #[.slice a n cap] w fun e w' => ∃ a1, e = .returned (.slice a1 n n) ∧ AdrAt w' a1 n A ∧ Below w.heap.size w w' := by
  cases a with
  | none =>
    obtain ⟨rfl, rfl⟩ := ha rfl
    have hnil := fun w => Lib.run_eql_slice_nil (P := Try.prog) w 51 33 none 0 0 0 0 Try.underlying51
    clear ha hA
    go_enter Try.func22, Try.ntmps22
    go_wp2
    go_ret
    exact ⟨none, rfl, .inl rfl, Below.refl _ _⟩
  | some ad =>
    obtain ⟨i0, z0, hi, hz0, hz1, hz2⟩ := info_row Try.info33' Try.zero33'
    have hnil := fun w => Lib.run_eql_slice_nil (P := Try.prog) w 51 33 (some ad) n cap 0 0 Try.underlying51
    have HA : Hid (AdrAt w (some ad) n A) := hA
    obtain ⟨T0, hT0⟩ : ∃ T0, T0 = w.heap.size := ⟨_, rfl⟩
    rw [← hT0]
    clear hA ha
    go_enter Try.func22, Try.ntmps22
    go_wp2_with (at_make; refine wpList_make_full _ rfl _ _ 51 rfl w.heap.size 33 i0 z0 20 Try.underlying51 hi hz0 hz1 .i64 .i64 _ _ n rfl rfl rfl rfl (by rw [hz2]; omega) (by unfold maxLen; omega) (Nat.le_refl _) ?_; intro w1 hown hgrow)
    have INV0 : Hid (ARw w.heap.size 33 n 0 A w w1) := ARw.made hown hgrow
    rw [← hT0] at INV0 ⊢
    clear hown hgrow hnil hi hz0 hz1 hz2
    have HT0 : Hid (T0 = w.heap.size) := hT0
    clear hT0
    go_loopw [4] (fun vi wr => ∃ (i : Nat), i ≤ n ∧ vi = .int .i64 i ∧ Hid (ARw T0 33 n i A w wr)) (fun vi _ => n - (intOf vi).toNat)
    case atStart => exact ⟨0, Nat.zero_le _, rfl, INV0⟩
    case round =>
      obtain ⟨i, hin, rfl, IK⟩ := hrel
      clear INV0
      by_cases hlt : i < n
      · have hAr := HA.out.below (HT0.out ▸ IK.out.below)
        obtain ⟨blk, off, hd, hc⟩ := hAr.at (by omega)
        cases hd
        obtain ⟨hl, hr⟩ := hc i hlt
        have l1 := load33 hl hr
        have s1 : (vst 33 ⟨T0, i * 20, none⟩ (addrV (A i))).run Try.prog wr = .ok () (wr.setCells T0 (i * 20) ((A i).map cell)) := stV_of (by rw [Try.size33]; simp [hl]) (by rw [List.length_map, hl]; exact IK.out.there i hlt) (addr_one _)
        have I2 : Hid _ := IK.out.put hlt (fun j hj => (hc j hj).1)
        clear IK hAr hc hr
        go_wp2_with fail
        go_roundw
        case rel => exact ⟨i + 1, by omega, by go_num, I2⟩
        case measure => simp [intOf]; omega
      · have hie : i = n := by omega
        subst hie
        have H1 : Hid (AdrAt wr (some ⟨T0, 0, none⟩) i A) := by
          by_cases h0 : i = 0
          · exact .inl h0
          · obtain ⟨_, _, hd, hc⟩ := HA.out.at (by omega)
            exact .inr ⟨T0, 0, rfl, fun j hj => ⟨(hc j hj).1, by rw [Nat.zero_add]; exact IK.out.done j hj⟩⟩
        have H2 : Hid (Below T0 w wr) := IK.out.below
        clear IK
        go_wp2_with fail
        go_ret
        exact ⟨_, rfl, H1.out, H2.out⟩

set_option maxHeartbeats 1000000 in
set_option maxRecDepth 100000 in
/-- 'zzToAddrs'. -/
theorem toA_zz (a : Option Addr) (n cap : Nat) (A : Nat → List UInt8) (w : World) (hn : n ≤ 4096) (hA : AdrAt w a n A) (ha : a = none → n = 0 ∧ cap = 0) :
    Calls Try.prog 25 #[.slice a n cap] w fun e w' => ∃ a1, e = .returned (.slice a1 n n) ∧ AdrAt w' a1 n A ∧ Below w.heap.size w w' := by
  cases a with
  | none =>
    obtain ⟨rfl, rfl⟩ := ha rfl
    have hnil := fun w => Lib.run_eql_slice_nil (P := Try.prog) w 51 33 none 0 0 0 0 Try.underlying51
    clear ha hA
    go_enter Try.func25, Try.ntmps25
    go_wp2
    go_ret
    exact ⟨none, rfl, .inl rfl, Below.refl _ _⟩
  | some ad =>
    obtain ⟨i0, z0, hi, hz0, hz1, hz2⟩ := info_row Try.info34' Try.zero34'
    have hnil := fun w => Lib.run_eql_slice_nil (P := Try.prog) w 51 33 (some ad) n cap 0 0 Try.underlying51
    have HA : Hid (AdrAt w (some ad) n A) := hA
    obtain ⟨T0, hT0⟩ : ∃ T0, T0 = w.heap.size := ⟨_, rfl⟩
    rw [← hT0]
    clear hA ha
    go_enter Try.func25, Try.ntmps25
    go_wp2_with (at_make; refine wpList_make_full _ rfl _ _ 25 rfl w.heap.size 34 i0 z0 20 Try.underlying25 hi hz0 hz1 .i64 .i64 _ _ n rfl rfl rfl rfl (by rw [hz2]; omega) (by unfold maxLen; omega) (Nat.le_refl _) ?_; intro w1 hown hgrow)
    have INV0 : Hid (ARw w.heap.size 34 n 0 A w w1) := ARw.made hown hgrow
    rw [← hT0] at INV0 ⊢
    clear hown hgrow hnil hi hz0 hz1 hz2
    have HT0 : Hid (T0 = w.heap.size) := hT0
    clear hT0
    go_loopw [4] (fun vi wr => ∃ (i : Nat), i ≤ n ∧ vi = .int .i64 i ∧ Hid (ARw T0 34 n i A w wr)) (fun vi _ => n - (intOf vi).toNat)
    case atStart => exact ⟨0, Nat.zero_le _, rfl, INV0⟩
    case round =>
      obtain ⟨i, hin, rfl, IK⟩ := hrel
      clear INV0
      by_cases hlt : i < n
      · have hAr := HA.out.below (HT0.out ▸ IK.out.below)
        obtain ⟨blk, off, hd, hc⟩ := hAr.at (by omega)
        cases hd
        obtain ⟨hl, hr⟩ := hc i hlt
        have l1 := load33 hl hr
        have s1 : (vst 34 ⟨T0, i * 20, none⟩ (addrV (A i))).run Try.prog wr = .ok () (wr.setCells T0 (i * 20) ((A i).map cell)) := stV_of (by rw [Try.size34]; simp [hl]) (by rw [List.length_map, hl]; exact IK.out.there i hlt) (addr_one _)
        have I2 : Hid _ := IK.out.put hlt (fun j hj => (hc j hj).1)
        clear IK hAr hc hr
        go_wp2_with fail
        go_roundw
        case rel => exact ⟨i + 1, by omega, by go_num, I2⟩
        case measure => simp [intOf]; omega
      · have hie : i = n := by omega
        subst hie
        have H1 : Hid (AdrAt wr (some ⟨T0, 0, none⟩) i A) := by
          by_cases h0 : i = 0
          · exact .inl h0
          · obtain ⟨_, _, hd, hc⟩ := HA.out.at (by omega)
            exact .inr ⟨T0, 0, rfl, fun j hj => ⟨(hc j hj).1, by rw [Nat.zero_add]; exact IK.out.done j hj⟩⟩
        have H2 : Hid (Below T0 w wr) := IK.out.below
        clear IK
        go_wp2_with fail
        go_ret
        exact ⟨_, rfl, H1.out, H2.out⟩
end Go.Proofs.Qxb6601491a
