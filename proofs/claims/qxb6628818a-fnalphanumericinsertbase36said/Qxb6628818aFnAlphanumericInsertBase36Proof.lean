/- The proof of 'Rows.FnAlphanumericInsertBase36Said'. The frame below the walk is the given shell's. -/
import Derived.Test.Qxb6628818aRows
import Derived.Test.Qxb6628818aB36
import Derived.WalkKit
import Derived.Deep.QuietTactic
import Derived.BigQuiet
import Derived.ProofKit
import Derived.OpenShut
import Derived.ShutString
namespace Go.Proofs.Qxb6628818a.fnAlphanumericInsertBase36
open Go.ChangeShapes Go.WideShapes Go.ChangeAt Go.RowKit
open Go.ChangeMaps (open_string shut_string)
set_option linter.unusedVariables false      -- a walk need not use every 'w<i>' (that an integer argument fits its kind)

theorem own : ownKnob Try.prog.godebug = none := by kernel_rfl

open Plain (aln alnB)

theorem zzb_yes (s : ByteArray) (n m : Int) (w : World) (h : (s.size : Int) ≤ 1048576) :
    Calls Try.prog 8 #[.string s, .int .i64 n, .int .u64 m] w fun e w' => e = .returned (.bool true) ∧ w' = w := by
  go_enter Try.func8, Try.ntmps8
  go_wp2
  go_ret
  exact ⟨rfl, rfl⟩

theorem zzb_no (s : ByteArray) (n m : Int) (w : World) (h : (1048576 : Int) < (s.size : Int)) :
    Calls Try.prog 8 #[.string s, .int .i64 n, .int .u64 m] w fun e w' => e = .returned (.bool false) ∧ w' = w := by
  go_enter Try.func8, Try.ntmps8
  go_wp2
  go_ret
  exact ⟨rfl, rfl⟩

/-! ### THE PLAIN LAW -/
theorem ins_all (a t : ByteArray) (i : Nat) (ht : alnB t.data.toList = true) :
    alnB (a.data.toList.take i ++ (t.data.toList ++ (a.data.toList.drop i).take (a.size - i))) = a.data.toList.all aln := by
  have e : (a.data.toList.drop i).take (a.size - i) = a.data.toList.drop i := List.take_of_length_le (by rw [List.length_drop]; show a.data.size - i ≤ a.data.size - i; omega)
  have e2 : a.data.toList.all aln = ((a.data.toList.take i).all aln && (a.data.toList.drop i).all aln) := by
    rw [← List.all_append, List.take_append_drop]
  rw [e, e2]
  unfold alnB at ht ⊢
  rw [Bool.and_eq_true] at ht
  rw [List.all_append, List.all_append, ht.1]
  have hn : (a.data.toList.take i ++ (t.data.toList ++ a.data.toList.drop i)).isEmpty = false := by
    have h2 := ht.2
    cases h : t.data.toList with
    | nil => rw [h] at h2; simp at h2
    | cons x xs => simp
  rw [hn]
  simp

theorem ins_empty (a t : ByteArray) (i : Nat) (he : a.toList = []) (ht : alnB t.data.toList = true) :
    alnB (a.data.toList.take i ++ (t.data.toList ++ (a.data.toList.drop i).take (a.size - i))) = true := by
  rw [ins_all a t i ht]
  rw [ByteArray.toList_eq] at he
  rw [he]; rfl

theorem ins_more (a t : ByteArray) (i : Nat) (he : ¬ a.toList = []) (ht : alnB t.data.toList = true) :
    (alnB (a.data.toList.take i ++ (t.data.toList ++ (a.data.toList.drop i).take (a.size - i))) == (a.toList.isEmpty || alnB a.data.toList)) = true := by
  rw [ins_all a t i ht]
  rw [ByteArray.toList_eq] at he ⊢
  unfold alnB
  have : a.data.toList.isEmpty = false := by
    cases h : a.data.toList with
    | nil => exact absurd h he
    | cons x xs => rfl
  rw [this]
  simp

/-! ### STEP 1: THE WALK: the Go text returns true. -/
set_option maxHeartbeats 400000 in
theorem walk (a0 : ByteArray) (a1 : Int) (a2 : Int) (w0 : a0.size ≤ maxLen) (w1 : (Lit.int .i64 a1).wf = true) (w2 : (Lit.int .u64 a2).wf = true) (w : World) :
    Calls Try.prog 4 #[.string a0, .int .i64 a1, .int .u64 a2] w fun e w' => e = .returned (.bool true) ∧ Grown w w' := by
  obtain ⟨w5, w6⟩ : 0 ≤ a2 ∧ a2 ≤ 18446744073709551615 := bounds_u64 w2
  clear w1 w2
  have hml : maxLen = 9223372036854775807 := rfl
  have Hml := hide hml
  clear hml
  by_cases hb : (a0.size : Int) ≤ 1048576
  · by_cases hneg : a1 < 0
    · have hd : decide (a1 < 0) = true := by simpa using hneg
      go_enter Try.func4, Try.ntmps4
      go_wp2_with fail
      refine (zzb_yes a0 a1 a2 _ hb).mono ?_
      rintro e w1 ⟨rfl, rfl⟩
      go_wp2
      go_ret
      exact ⟨rfl, Grown.refl _⟩
    · have hd : decide (a1 < 0) = false := by simpa using hneg
      obtain ⟨i, rfl⟩ := Int.eq_ofNat_of_zero_le (Int.not_lt.1 hneg)
      by_cases hi : (a0.size : Int) < (i : Int)
      · go_enter Try.func4, Try.ntmps4
        go_wp2_with fail
        refine (zzb_yes a0 _ a2 _ hb).mono ?_
        rintro e w1 ⟨rfl, rfl⟩
        go_wp2
        go_ret
        exact ⟨rfl, Grown.refl _⟩
      · go_enter Try.func4, Try.ntmps4
        go_wp2_with fail
        refine (zzb_yes a0 _ a2 _ hb).mono ?_
        rintro e w1 ⟨rfl, rfl⟩
        go_wp2_with fail
        refine (b36 a2 _ w5 w6).mono ?_
        rintro e w1 ⟨t, rfl, ht, hal, hg⟩
        have H2 := hide hal
        clear hal
        have hi2 : i ≤ a0.size := by omega
        have z1 : (a0.extract 0 i).size = i := by rw [ByteArray.size_extract]; omega
        have z2 : (a0.extract i a0.size).size = a0.size - i := by rw [ByteArray.size_extract]; omega
        have hp : ∀ W, (Op.stringOp .add (a0.extract 0 i) t).run Try.prog W = .ok (.string (a0.extract 0 i ++ t)) W := fun W => run_string_add_sum W _ _ (by omega)
        have hq : ∀ W, (Op.stringOp .add (a0.extract 0 i ++ t) (a0.extract i a0.size)).run Try.prog W = .ok (.string (a0.extract 0 i ++ t ++ a0.extract i a0.size)) W := fun W => run_string_add_sum W _ _ (by rw [ByteArray.size_append]; omega)
        have hz : (a0.extract 0 i ++ t ++ a0.extract i a0.size).size ≤ maxLen := by rw [ByteArray.size_append, ByteArray.size_append, Hml.out]; omega
        have H1 := hide hz
        clear hz z1 z2
        go_wp2_with fail
        go_quiet ((go_at_call 7; exact Calls.quiet_of_same (isAln _ _ H1.out)))
        go_wp2_with fail
        · have he : a0.toList = [] := by assumption
          have HE := hide (ins_empty a0 t i he H2.out)
          go_ret
          exact ⟨ret_bool HE.out, hg⟩
        · have he : ¬ a0.toList = [] := by assumption
          refine (isAln a0 _ w0).mono ?_
          rintro e w4 ⟨rfl, rfl⟩
          go_wp2
          go_ret
          exact ⟨ret_bool (ins_more a0 t i he H2.out), hg⟩
  · go_enter Try.func4, Try.ntmps4
    go_wp2_with fail
    refine (zzb_no a0 a1 a2 _ (by omega)).mono ?_
    rintro e w1 ⟨rfl, rfl⟩
    go_wp2
    go_ret
    exact ⟨rfl, Grown.refl _⟩

/-! ### THE ROW's STEP: WRITTEN OUT: LEAVE IT -/
set_option maxRecDepth 100000 in
theorem lifted (os : Os) (started : os.Started) (H : Type) (enc : TypeId × Value → H) :
    ReturnsInHanded {} Try.checked os 4 .any (Rows.fnAlphanumericInsertBase36Spec.pre6 enc Try.prog Try.f4 Rows.fnAlphanumericInsertBase36Row.domain false) (Rows.fnAlphanumericInsertBase36Spec.post enc Try.prog Try.f4 false true false false) := by
  refine returnsInHanded_of_change (C := Try.checked) own started (by kernel_rfl) Try.func4
    (ChangeSpec.witness6 (enc := enc) (C := Try.checked) false ⟨#[], #[.string ByteArray.empty, .int .i64 0, .int .u64 0], []⟩ 8 (by kernel_rfl) (by kernel_rfl) (by kernel_rfl) (by kernel_rfl)) ?_
  intro W base args ds gs before hval0 hW hcnd _
  have hval : ∀ (j : Nat) t v, Try.f4.params[j]? = some t → args[j]? = some v → Value.okWide Try.prog W .any base t v := hval0
  have hW' := hW
  obtain ⟨p, q, hA0, hV, rfl, hfz, hnd⟩ := hW
  have hA : DataW.TrodAll enc Try.prog W 0 (fun _ => true) true Try.f4.params.toList args.toList ds p := hA0
  rw [Try.params4] at hA hval
  obtain ⟨v0, vs0, d0, ds0, p0, q0, hargs, rfl, rfl, h0, r0⟩ := trodAll_cons hA
  obtain ⟨v1, vs1, d1, ds1, p1, q1, rfl, rfl, rfl, h1, r1⟩ := trodAll_cons r0
  obtain ⟨v2, vs2, d2, ds2, p2, q2, rfl, rfl, rfl, h2, r2⟩ := trodAll_cons r1
  obtain ⟨rfl, rfl, rfl⟩ := trodAll_nil r2
  obtain rfl : args = #[v0, v1, v2] := by cases args; simp_all
  obtain ⟨rfl, rfl⟩ := trodVars_none hV
  obtain ⟨a0, rfl, rfl, rfl, w0⟩ := open_string Try.underlying9 (hval 0 9 v0 rfl rfl) h0
  obtain ⟨a1, rfl, rfl, rfl, w1⟩ := open_int Try.underlying3 (hval 1 3 v1 rfl rfl) h1
  obtain ⟨a2, rfl, rfl, rfl, w2⟩ := open_int Try.underlying25 (hval 2 25 v2 rfl rfl) h2
  clear hA0 hval0
  simp only [List.append_nil] at hW'
  refine (walk a0 a1 a2 w0 w1 w2 W).mono fun e W' ⟨he, hg⟩ => ?_
  subst he
  exact ⟨_, rfl, post_of_same (pa := []) (pv := []) hW' (fun _ _ _ => (trodAll_cons_mk (shut_bool Try.underlying4 _) trodAll_mk0)) (fun sp _ => (trodAll_cons_mk (shut_string Try.underlying9 w0) (trodAll_cons_mk (shut_int Try.underlying3 w1) (trodAll_cons_mk (shut_int Try.underlying25 w2) trodAll_mk0)))) (fun _ _ => rfl) rfl
    (hg.frame _) hg.2.1 (ok_one (by kernel_rfl) rfl (okWide_bool_mk Try.underlying4 _))⟩

theorem over : Rows.fnAlphanumericInsertBase36Row.holds Try.pinned (OpenSpec.ofChange Rows.fnAlphanumericInsertBase36Spec) :=
  OpenClaim.holds_of_wide 4 Try.f4 rfl rfl rfl rfl rfl rfl rfl ⟨rfl, rfl, rfl, rfl, rfl⟩ rfl rfl rfl rfl rfl (by kernel_rfl) Try.func4 (by kernel_rfl)
    (of_decide_eq_true (by kernel_rfl)) (by unfold Func.isWrapper; first | (rw [if_pos (by decide +kernel)]; kernel_rfl) | (rw [if_neg (by decide +kernel)]; exact ⟨rfl, rfl⟩))
    (fun os started H enc _ => lifted os started H enc)

/-- ████ THE STATEMENT ████ -/
theorem proved : Rows.FnAlphanumericInsertBase36Said :=
  over
end Go.Proofs.Qxb6628818a.fnAlphanumericInsertBase36
