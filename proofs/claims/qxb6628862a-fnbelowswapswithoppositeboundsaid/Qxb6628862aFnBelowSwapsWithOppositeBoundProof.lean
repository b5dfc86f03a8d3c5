/- The proof of 'Rows.FnBelowSwapsWithOppositeBoundSaid'. The frame below the walk is the given shell's. -/
import Derived.Test.Qxb6628862aRows
import Derived.Test.Qxb6628862aIn
import Derived.WalkKit
import Derived.ProofKit
import Derived.OpenShut
import Derived.ShutString
import Derived.ChangeOld
import Derived.Below
namespace Go.Proofs.Qxb6628862a.fnBelowSwapsWithOppositeBound
open Go.ChangeShapes Go.WideShapes Go.ChangeAt Go.RowKit
open Go.ChangeMaps (open_string shut_string)
set_option linter.unusedVariables false

theorem own : ownKnob Try.prog.godebug = none := by kernel_rfl
theorem laidOut : laidOutB Try.prog = true := by kernel_rfl

open Go.Lib (compareBytes)

theorem zzb_yes (a0 a2 : Option Addr) (l0 c0 l2 c2 : Nat) (b : Bool) (w : World) (h : (l0 : Int) + (l2 : Int) ≤ 1048576) :
    Calls Try.prog 5 #[.slice a0 l0 c0, .bool b, .slice a2 l2 c2] w fun e w' => e = .returned (.bool true) ∧ w' = w := by
  go_enter Try.func5, Try.ntmps5
  go_wp2
  go_ret
  exact ⟨rfl, rfl⟩

theorem zzb_no (a0 a2 : Option Addr) (l0 c0 l2 c2 : Nat) (b : Bool) (w : World) (h : ¬ (l0 : Int) + (l2 : Int) ≤ 1048576) (m0 : (l0 : Int) ≤ 9223372036854775807) (m2 : (l2 : Int) ≤ 9223372036854775807) :
    Calls Try.prog 5 #[.slice a0 l0 c0, .bool b, .slice a2 l2 c2] w fun e w' => e = .returned (.bool false) ∧ w' = w := by
  by_cases h1 : (1048576 : Int) < (l0 : Int)
  · go_enter Try.func5, Try.ntmps5
    go_wp2
    go_ret
    exact ⟨rfl, rfl⟩
  · by_cases h2 : (1048576 : Int) < (l2 : Int)
    · go_enter Try.func5, Try.ntmps5
      go_wp2
      go_ret
      exact ⟨rfl, rfl⟩
    · go_enter Try.func5, Try.ntmps5
      go_wp2
      go_ret
      exact ⟨rfl, rfl⟩

/-! ### STEP 1: THE WALK -/
set_option maxHeartbeats 1000000 in
theorem walk_some (x0 : Addr) (len0 cap0 : Nat) (a1 : Bool) (x2 : Addr) (len2 cap2 : Nat) (ks xs : List UInt8) (w : World) (h0 : ks.length = len0) (h2 : xs.length = len2) (r0 : Row w (some x0) ks) (r2 : Row w (some x2) xs)
    (hs : (len0 : Int) + (len2 : Int) ≤ 1048576) (s0 : (len0 : Int) ≤ 524288) (s2 : (len2 : Int) ≤ 524288) :
    Calls Try.prog 3 #[.slice (some x0) len0 cap0, .bool a1, .slice (some x2) len2 cap2] w fun e w' => e = .returned (.bool true) ∧ Below w.heap.size w w' := by
  have hq := nilSlice
  have H0 := hide h0
  have H2 := hide h2
  have R0 := hide r0
  have R2 := hide r2
  clear h0 h2 r0 r2
  have hz0 : len0 ≤ 1048576 := by omega
  have hz2 : len2 ≤ 1048576 := by omega
  have HC := hide (Plain.cmp_anti xs ks)
  have HA : Hid (∃ b : Bool, b = a1) := ⟨a1, rfl⟩
  go_enter Try.func3, Try.ntmps3
  go_wp2_with fail
  refine (zzb_yes _ _ _ _ _ _ _ _ hs).mono ?_
  rintro e w1 ⟨rfl, rfl⟩
  go_wp2_with fail
  refine (below_some _ _ _ _ _ _ _ ks xs _ H0.out H2.out R0.out R2.out).mono ?_
  rintro e w1 ⟨rfl, hb1⟩
  have B1 := hide hb1
  have R01 := hide (R0.out.below hb1)
  have R21 := hide (R2.out.below hb1)
  clear hb1
  go_wp2_with fail
  refine (cmp_any _ _ _ _ _ _ xs ks _ H2.out H0.out hz2 hz0 R21.out R01.out).mono ?_
  rintro e w2 ⟨rfl, n, rfl⟩
  rcases Plain.cmp_range xs ks with hc | hc | hc
  · have E := hide (below_lt (after := a1) hc)
    have E2 := hide fun b : Bool => below_gt (xs := ks) (ks := xs) (after := b) (by have := HC.out; omega)
    rw [hc, E.out]
    clear hc
    go_wp2_with fail
    refine (below_some _ _ _ _ _ _ _ xs ks _ H2.out H0.out (R21.out.drN n) (R01.out.drN n)).mono ?_
    rintro e w3 ⟨rfl, hb3⟩
    have B3 := hide (close B1.out hb3)
    clear hb3
    rw [E2.out]
    go_wp2
    go_ret
    exact ⟨rfl, B3.out⟩
  · have E := hide (below_eq (after := a1) hc)
    have E2 := hide fun b : Bool => below_eq (xs := ks) (ks := xs) (after := b) (by have := HC.out; omega)
    rw [hc, E.out]
    clear hc E
    cases a1
    all_goals
      go_wp2_with fail
      refine (below_some _ _ _ _ _ _ _ xs ks _ H2.out H0.out (R21.out.drN n) (R01.out.drN n)).mono ?_
      rintro e w3 ⟨rfl, hb3⟩
      have B3 := hide (close B1.out hb3)
      clear hb3
      rw [E2.out]
      go_wp2
      go_ret
      exact ⟨rfl, B3.out⟩
  · have E := hide (below_gt (after := a1) hc)
    have E2 := hide fun b : Bool => below_lt (xs := ks) (ks := xs) (after := b) (by have := HC.out; omega)
    rw [hc, E.out]
    clear hc
    go_wp2_with fail
    refine (below_some _ _ _ _ _ _ _ xs ks _ H2.out H0.out (R21.out.drN n) (R01.out.drN n)).mono ?_
    rintro e w3 ⟨rfl, hb3⟩
    have B3 := hide (close B1.out hb3)
    clear hb3
    rw [E2.out]
    go_wp2
    go_ret
    exact ⟨rfl, B3.out⟩

set_option maxHeartbeats 1000000 in
theorem walk_nil (x0 : Addr) (len0 cap0 : Nat) (a1 : Bool) (len2 cap2 : Nat) (ks xs : List UInt8) (w : World) (h0 : ks.length = len0) (h2 : xs.length = len2) (r0 : Row w (some x0) ks) (r2 : Row w none xs)
    (hs : (len0 : Int) + (len2 : Int) ≤ 1048576) (s0 : (len0 : Int) ≤ 524288) (s2 : (len2 : Int) ≤ 524288) :
    Calls Try.prog 3 #[.slice (some x0) len0 cap0, .bool a1, .slice none len2 cap2] w fun e w' => e = .returned (.bool true) ∧ Below w.heap.size w w' := by
  have hq := nilSlice
  have H0 := hide h0
  have H2 := hide h2
  have R0 := hide r0
  have R2 := hide r2
  clear h0 h2 r0 r2
  have hz0 : len0 ≤ 1048576 := by omega
  have hz2 : len2 ≤ 1048576 := by omega
  have HC := hide (Plain.cmp_anti xs ks)
  have HA : Hid (∃ b : Bool, b = a1) := ⟨a1, rfl⟩
  go_enter Try.func3, Try.ntmps3
  go_wp2_with fail
  refine (zzb_yes _ _ _ _ _ _ _ _ hs).mono ?_
  rintro e w1 ⟨rfl, rfl⟩
  go_wp2_with fail
  refine (below_some _ _ _ _ _ _ _ ks xs _ H0.out H2.out R0.out R2.out).mono ?_
  rintro e w1 ⟨rfl, hb1⟩
  have B1 := hide hb1
  have R01 := hide (R0.out.below hb1)
  have R21 := hide (R2.out.below hb1)
  clear hb1
  go_wp2_with fail
  refine (cmp_any _ _ _ _ _ _ xs ks _ H2.out H0.out hz2 hz0 R21.out R01.out).mono ?_
  rintro e w2 ⟨rfl, n, rfl⟩
  rcases Plain.cmp_range xs ks with hc | hc | hc
  · have E := hide (below_lt (after := a1) hc)
    have E2 := hide fun b : Bool => below_gt (xs := ks) (ks := xs) (after := b) (by have := HC.out; omega)
    rw [hc, E.out]
    clear hc
    go_wp2_with fail
    refine (below_nil _ _ _ _ _).mono ?_
    rintro e w3 ⟨rfl, hb3⟩
    have B3 := hide (close B1.out hb3)
    clear hb3
    go_wp2
    go_ret
    exact ⟨rfl, B3.out⟩
  · have E := hide (below_eq (after := a1) hc)
    have E2 := hide fun b : Bool => below_eq (xs := ks) (ks := xs) (after := b) (by have := HC.out; omega)
    rw [hc, E.out]
    clear hc E
    cases a1
    all_goals
      go_wp2_with fail
      refine (below_nil _ _ _ _ _).mono ?_
      rintro e w3 ⟨rfl, hb3⟩
      have B3 := hide (close B1.out hb3)
      clear hb3
      go_wp2
      go_ret
      exact ⟨rfl, B3.out⟩
  · have E := hide (below_gt (after := a1) hc)
    have E2 := hide fun b : Bool => below_lt (xs := ks) (ks := xs) (after := b) (by have := HC.out; omega)
    rw [hc, E.out]
    clear hc
    go_wp2_with fail
    refine (below_nil _ _ _ _ _).mono ?_
    rintro e w3 ⟨rfl, hb3⟩
    have B3 := hide (close B1.out hb3)
    clear hb3
    go_wp2
    go_ret
    exact ⟨rfl, B3.out⟩

theorem walk (a0 : Option Addr) (len0 cap0 : Nat) (z0 : List Int) (a1 : Bool) (a2 : Option Addr) (len2 cap2 : Nat) (z2 : List Int) (w : World) (w0 : IsRow .u8 w a0 len0 cap0 z0) (w2 : IsRow .u8 w a2 len2 cap2 z2) :
    Calls Try.prog 3 #[.slice a0 len0 cap0, .bool a1, .slice a2 len2 cap2] w fun e w' => e = .returned (.bool true) ∧ Below w.heap.size w w' := by
  have m0 := len_le w0
  have m2 := len_le w2
  obtain ⟨ks, h0, r0⟩ := row_of w0
  obtain ⟨xs, h2, r2⟩ := row_of w2
  clear w0 w2
  have hq := nilSlice
  by_cases hs : (len0 : Int) + (len2 : Int) ≤ 1048576
  · by_cases s0 : (len0 : Int) ≤ 524288
    · by_cases s2 : (len2 : Int) ≤ 524288
      · cases a0 with
        | some x0 =>
          cases a2 with
          | some x2 => exact walk_some x0 len0 cap0 a1 x2 len2 cap2 ks xs w h0 h2 r0 r2 hs s0 s2
          | none => exact walk_nil x0 len0 cap0 a1 len2 cap2 ks xs w h0 h2 r0 r2 hs s0 s2
        | none =>
          clear r0 r2 h0 h2
          go_enter Try.func3, Try.ntmps3
          go_wp2_with fail
          refine (zzb_yes _ _ _ _ _ _ _ _ hs).mono ?_
          rintro e w1 ⟨rfl, rfl⟩
          go_wp2_with fail
          refine (below_nil _ _ _ _ _).mono ?_
          rintro e w3 ⟨rfl, hb3⟩
          have B3 := hide hb3
          clear hb3
          go_wp2
          go_ret
          exact ⟨rfl, B3.out⟩
      · clear r0 r2 h0 h2
        go_enter Try.func3, Try.ntmps3
        go_wp2_with fail
        refine (zzb_yes _ _ _ _ _ _ _ _ hs).mono ?_
        rintro e w1 ⟨rfl, rfl⟩
        go_wp2
        go_ret
        exact ⟨rfl, Below.refl _ _⟩
    · clear r0 r2 h0 h2
      go_enter Try.func3, Try.ntmps3
      go_wp2_with fail
      refine (zzb_yes _ _ _ _ _ _ _ _ hs).mono ?_
      rintro e w1 ⟨rfl, rfl⟩
      go_wp2
      go_ret
      exact ⟨rfl, Below.refl _ _⟩
  · clear r0 r2 h0 h2
    go_enter Try.func3, Try.ntmps3
    go_wp2_with fail
    refine (zzb_no _ _ _ _ _ _ _ _ (by omega) m0 m2).mono ?_
    rintro e w1 ⟨rfl, rfl⟩
    go_wp2
    go_ret
    exact ⟨rfl, Below.refl _ _⟩

/-! ### THE ROW's STEP: WRITTEN OUT: LEAVE IT -/
set_option maxRecDepth 100000 in
theorem lifted (os : Os) (started : os.Started) (H : Type) (enc : TypeId × Value → H) :
    ReturnsInHanded {} Try.checked os 3 .any (Rows.fnBelowSwapsWithOppositeBoundSpec.pre6 enc Try.prog Try.f3 Rows.fnBelowSwapsWithOppositeBoundRow.domain false) (Rows.fnBelowSwapsWithOppositeBoundSpec.post enc Try.prog Try.f3 false true false false) := by
  refine returnsInHanded_of_change (C := Try.checked) own started (by kernel_rfl) Try.func3
    (ChangeSpec.witness6 (enc := enc) (C := Try.checked) false ⟨#[], #[.slice none 0 0, .bool false, .slice none 0 0], []⟩ 8 (by kernel_rfl) (by kernel_rfl) (by kernel_rfl) (by kernel_rfl)) ?_
  intro W base args ds gs before hval0 hW hcnd _
  have hval : ∀ (j : Nat) t v, Try.f3.params[j]? = some t → args[j]? = some v → Value.okWide Try.prog W .any base t v := hval0
  have hW' := hW
  obtain ⟨p, q, hA0, hV, rfl, hfz, hnd⟩ := hW
  have hA : DataW.TrodAll enc Try.prog W 0 (fun _ => true) true Try.f3.params.toList args.toList ds p := hA0
  rw [Try.params3] at hA hval
  obtain ⟨v0, vs0, d0, ds0, p0, q0, hargs, rfl, rfl, h0, r0⟩ := trodAll_cons hA
  obtain ⟨v1, vs1, d1, ds1, p1, q1, rfl, rfl, rfl, h1, r1⟩ := trodAll_cons r0
  obtain ⟨v2, vs2, d2, ds2, p2, q2, rfl, rfl, rfl, h2, r2⟩ := trodAll_cons r1
  obtain ⟨rfl, rfl, rfl⟩ := trodAll_nil r2
  obtain rfl : args = #[v0, v1, v2] := by cases args; simp_all
  obtain ⟨rfl, rfl⟩ := trodVars_none hV
  obtain ⟨a0, len0, cap0, rfl⟩ := okWide_slice Try.underlying22 (hval 0 22 v0 rfl rfl)
  have k0 := h0
  have lt0 : ∀ x ∈ p0, x.block < W.heap.size := by obtain ⟨m, hm⟩ := k0; exact DataW.trod_lt m _ _ _ hm
  obtain ⟨z0, w0⟩ : ∃ zs, IsRow .u8 W a0 len0 cap0 zs := by
    obtain ⟨fuel, hf⟩ := h0
    rcases open_ints Try.underlying22 Try.underlying5 (by kernel_rfl) hf with ⟨hcs, _⟩ | ⟨x, l, c, zs, hcs, _, hl, hm, hz, _, hcell, hwz⟩
    · simp [Value.cells] at hcs
      obtain ⟨rfl, rfl, rfl⟩ := hcs
      exact ⟨[], .inl ⟨rfl, rfl, rfl, rfl⟩⟩
    · simp [Value.cells] at hcs
      obtain ⟨rfl, rfl, rfl⟩ := hcs
      exact ⟨zs, .inr ⟨_, rfl, hl, hm, by simpa using hz, hcell, hwz⟩⟩
  obtain ⟨a1, rfl, rfl, rfl⟩ := open_bool Try.underlying4 (hval 1 4 v1 rfl rfl) h1
  obtain ⟨a2, len2, cap2, rfl⟩ := okWide_slice Try.underlying22 (hval 2 22 v2 rfl rfl)
  have k2 := h2
  have lt2 : ∀ x ∈ p2, x.block < W.heap.size := by obtain ⟨m, hm⟩ := k2; exact DataW.trod_lt m _ _ _ hm
  obtain ⟨z2, w2⟩ : ∃ zs, IsRow .u8 W a2 len2 cap2 zs := by
    obtain ⟨fuel, hf⟩ := h2
    rcases open_ints Try.underlying22 Try.underlying5 (by kernel_rfl) hf with ⟨hcs, _⟩ | ⟨x, l, c, zs, hcs, _, hl, hm, hz, _, hcell, hwz⟩
    · simp [Value.cells] at hcs
      obtain ⟨rfl, rfl, rfl⟩ := hcs
      exact ⟨[], .inl ⟨rfl, rfl, rfl, rfl⟩⟩
    · simp [Value.cells] at hcs
      obtain ⟨rfl, rfl, rfl⟩ := hcs
      exact ⟨zs, .inr ⟨_, rfl, hl, hm, by simpa using hz, hcell, hwz⟩⟩
  clear hA0 hval0
  refine (walk a0 len0 cap0 z0 a1 a2 len2 cap2 z2 W w0 w2).mono fun e W' ⟨he, bel⟩ => ?_
  subst he
  exact ⟨_, rfl, _, _, _, [], _, [], hW', trodAll_mk1 (shut_bool Try.underlying4 _), (trodAll_cons_mk (Below.trod laidOut (by kernel_rfl) (of_decide_eq_true (by kernel_rfl)) k0 bel lt0) (trodAll_cons_mk (shut_bool Try.underlying4 _) (trodAll_cons_mk (Below.trod laidOut (by kernel_rfl) (of_decide_eq_true (by kernel_rfl)) k2 bel lt2) trodAll_mk0))), rfl, bel.frame _, fun h => by cases h⟩

theorem over : Rows.fnBelowSwapsWithOppositeBoundRow.holds Try.pinned (OpenSpec.ofChange Rows.fnBelowSwapsWithOppositeBoundSpec) :=
  OpenClaim.holds_of_wide 3 Try.f3 rfl rfl rfl rfl rfl rfl rfl ⟨rfl, rfl, rfl, rfl, rfl⟩ rfl rfl rfl rfl rfl (by kernel_rfl) Try.func3 (by kernel_rfl)
    (of_decide_eq_true (by kernel_rfl)) (by unfold Func.isWrapper; first | (rw [if_pos (by decide +kernel)]; kernel_rfl) | (rw [if_neg (by decide +kernel)]; exact ⟨rfl, rfl⟩))
    (fun os started H enc _ => lifted os started H enc)

/-- ████ THE STATEMENT ████ -/
theorem proved : Rows.FnBelowSwapsWithOppositeBoundSaid := over
end Go.Proofs.Qxb6628862a.fnBelowSwapsWithOppositeBound
