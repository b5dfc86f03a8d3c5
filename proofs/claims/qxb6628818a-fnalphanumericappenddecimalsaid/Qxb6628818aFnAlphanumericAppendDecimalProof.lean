/- The proof of 'Rows.FnAlphanumericAppendDecimalSaid'. The frame below the walk is the given shell's. -/
import Derived.Test.Qxb6628818aRows
import Derived.Test.Qxb6628818aDec
import Derived.WalkKit
import Derived.ProofKit
import Derived.OpenShut
import Derived.ShutString
namespace Go.Proofs.Qxb6628818a.fnAlphanumericAppendDecimal
open Go.ChangeShapes Go.WideShapes Go.ChangeAt Go.RowKit
open Go.ChangeMaps (open_string shut_string)
set_option linter.unusedVariables false      -- a walk need not use every 'w<i>' (that an integer argument fits its kind)

theorem own : ownKnob Try.prog.godebug = none := by kernel_rfl

open Plain (aln alnB)

theorem zzb_yes (s : ByteArray) (n : Int) (w : World) (h : (s.size : Int) ≤ 1048576) :
    Calls Try.prog 5 #[.string s, .int .i64 n] w fun e w' => e = .returned (.bool true) ∧ w' = w := by
  go_enter Try.func5, Try.ntmps5
  go_wp2
  go_ret
  exact ⟨rfl, rfl⟩

theorem zzb_no (s : ByteArray) (n : Int) (w : World) (h : (1048576 : Int) < (s.size : Int)) :
    Calls Try.prog 5 #[.string s, .int .i64 n] w fun e w' => e = .returned (.bool false) ∧ w' = w := by
  go_enter Try.func5, Try.ntmps5
  go_wp2
  go_ret
  exact ⟨rfl, rfl⟩

/-! ### THE PLAIN LAW -/
theorem data_append (a t : ByteArray) : (a ++ t).data.toList = a.data.toList ++ t.data.toList := by simp

theorem join_empty (a t : ByteArray) (he : a.toList.isEmpty = true) (ht : alnB t.data.toList = true) : alnB (a ++ t).data.toList = true := by
  rw [ByteArray.toList_eq] at he
  rw [data_append, List.isEmpty_iff.1 he]
  simpa using ht

theorem join_more (a t : ByteArray) (he : a.toList.isEmpty = false) (ht : alnB t.data.toList = true) : alnB (a ++ t).data.toList = alnB a.data.toList := by
  rw [ByteArray.toList_eq] at he
  rw [data_append]
  unfold alnB at ht ⊢
  rw [Bool.and_eq_true] at ht
  rw [List.all_append, ht.1, he]
  simp
  intro _ h
  rw [h] at he
  exact absurd he (by simp)

theorem join_bad (a t : ByteArray) (ht : t.data.toList.all aln = false) : alnB (a ++ t).data.toList = false := by
  rw [data_append]
  unfold alnB
  rw [List.all_append, ht]
  simp

/-! ### STEP 1: THE WALK: the Go text returns true. -/
set_option maxHeartbeats 400000 in
theorem walk (a0 : ByteArray) (a1 : Int) (w0 : a0.size ≤ maxLen) (w1 : (Lit.int .i64 a1).wf = true) (w : World) :
    Calls Try.prog 3 #[.string a0, .int .i64 a1] w fun e w' => e = .returned (.bool true) ∧ Grown w w' := by
  obtain ⟨w2, w3⟩ : -9223372036854775808 ≤ a1 ∧ a1 ≤ 9223372036854775807 := bounds_i64 w1
  clear w1
  have hml : maxLen = 9223372036854775807 := rfl
  have Hml := hide hml
  clear hml
  by_cases hb : (a0.size : Int) ≤ 1048576
  · by_cases hn : 0 ≤ a1
    · have hge : decide (0 ≤ a1) = true := by simp [hn]
      go_enter Try.func3, Try.ntmps3
      go_wp2_with fail
      refine (zzb_yes a0 a1 _ hb).mono ?_
      rintro e w1 ⟨rfl, rfl⟩
      go_wp2_with fail
      refine (dec_pos a1 _ hn w3).mono ?_
      rintro e w1 ⟨t, rfl, ht, hal, hg⟩
      have hadd : ∀ W, (Op.stringOp .add a0 t).run Try.prog W = .ok (.string (a0 ++ t)) W := fun W => run_string_add_sum W _ _ (by omega)
      have hz : (a0 ++ t).size ≤ maxLen := by rw [ByteArray.size_append, Hml.out]; omega
      have H1 := hide hz
      have H2 := hide hal
      clear hz hal
      cases he : a0.toList.isEmpty with
      | true =>
        have HE := hide he
        go_wp2_with fail
        refine (isAln (a0 ++ t) _ H1.out).mono ?_
        rintro e w4 ⟨rfl, rfl⟩
        rw [join_empty a0 t HE.out H2.out]
        go_wp2
        go_ret
        exact ⟨rfl, hg⟩
      | false =>
        have HE := hide he
        go_wp2_with fail
        refine (isAln a0 _ w0).mono ?_
        rintro e w4 ⟨rfl, rfl⟩
        generalize hb0 : alnB a0.data.toList = b0
        have HB := hide hb0
        clear hb0
        go_wp2_with fail
        refine (isAln (a0 ++ t) _ H1.out).mono ?_
        rintro e w4 ⟨rfl, rfl⟩
        rw [join_more a0 t HE.out H2.out, HB.out]
        go_wp2
        go_ret
        exact ⟨by simp, hg⟩
    · have hge : decide (0 ≤ a1) = false := by simpa using hn
      go_enter Try.func3, Try.ntmps3
      go_wp2_with fail
      refine (zzb_yes a0 a1 _ hb).mono ?_
      rintro e w1 ⟨rfl, rfl⟩
      go_wp2_with fail
      refine (dec_neg a1 _ (by omega) w2).mono ?_
      rintro e w1 ⟨t, rfl, ht, hal, hg⟩
      have hadd : ∀ W, (Op.stringOp .add a0 t).run Try.prog W = .ok (.string (a0 ++ t)) W := fun W => run_string_add_sum W _ _ (by omega)
      have hz : (a0 ++ t).size ≤ maxLen := by rw [ByteArray.size_append, Hml.out]; omega
      have H1 := hide hz
      have H2 := hide hal
      clear hz hal
      go_wp2_with fail
      refine (isAln (a0 ++ t) _ H1.out).mono ?_
      rintro e w4 ⟨rfl, rfl⟩
      rw [join_bad a0 t H2.out]
      go_wp2
      go_ret
      exact ⟨rfl, hg⟩
  · go_enter Try.func3, Try.ntmps3
    go_wp2_with fail
    refine (zzb_no a0 a1 _ (by omega)).mono ?_
    rintro e w1 ⟨rfl, rfl⟩
    go_wp2
    go_ret
    exact ⟨rfl, Grown.refl _⟩

/-! ### THE ROW's STEP: WRITTEN OUT: LEAVE IT -/
set_option maxRecDepth 100000 in
theorem lifted (os : Os) (started : os.Started) (H : Type) (enc : TypeId × Value → H) :
    ReturnsInHanded {} Try.checked os 3 .any (Rows.fnAlphanumericAppendDecimalSpec.pre6 enc Try.prog Try.f3 Rows.fnAlphanumericAppendDecimalRow.domain false) (Rows.fnAlphanumericAppendDecimalSpec.post enc Try.prog Try.f3 false true false false) := by
  refine returnsInHanded_of_change (C := Try.checked) own started (by kernel_rfl) Try.func3
    (ChangeSpec.witness6 (enc := enc) (C := Try.checked) false ⟨#[], #[.string ByteArray.empty, .int .i64 0], []⟩ 8 (by kernel_rfl) (by kernel_rfl) (by kernel_rfl) (by kernel_rfl)) ?_
  intro W base args ds gs before hval0 hW hcnd _
  have hval : ∀ (j : Nat) t v, Try.f3.params[j]? = some t → args[j]? = some v → Value.okWide Try.prog W .any base t v := hval0
  have hW' := hW
  obtain ⟨p, q, hA0, hV, rfl, hfz, hnd⟩ := hW
  have hA : DataW.TrodAll enc Try.prog W 0 (fun _ => true) true Try.f3.params.toList args.toList ds p := hA0
  rw [Try.params3] at hA hval
  obtain ⟨v0, vs0, d0, ds0, p0, q0, hargs, rfl, rfl, h0, r0⟩ := trodAll_cons hA
  obtain ⟨v1, vs1, d1, ds1, p1, q1, rfl, rfl, rfl, h1, r1⟩ := trodAll_cons r0
  obtain ⟨rfl, rfl, rfl⟩ := trodAll_nil r1
  obtain rfl : args = #[v0, v1] := by cases args; simp_all
  obtain ⟨rfl, rfl⟩ := trodVars_none hV
  obtain ⟨a0, rfl, rfl, rfl, w0⟩ := open_string Try.underlying9 (hval 0 9 v0 rfl rfl) h0
  obtain ⟨a1, rfl, rfl, rfl, w1⟩ := open_int Try.underlying2 (hval 1 2 v1 rfl rfl) h1
  clear hA0 hval0
  simp only [List.append_nil] at hW'
  refine (walk a0 a1 w0 w1 W).mono fun e W' ⟨he, hg⟩ => ?_
  subst he
  exact ⟨_, rfl, post_of_same (pa := []) (pv := []) hW' (fun _ _ _ => (trodAll_cons_mk (shut_bool Try.underlying4 _) trodAll_mk0)) (fun sp _ => (trodAll_cons_mk (shut_string Try.underlying9 w0) (trodAll_cons_mk (shut_int Try.underlying2 w1) trodAll_mk0))) (fun _ _ => rfl) rfl
    (hg.frame _) hg.2.1 (ok_one (by kernel_rfl) rfl (okWide_bool_mk Try.underlying4 _))⟩

theorem over : Rows.fnAlphanumericAppendDecimalRow.holds Try.pinned (OpenSpec.ofChange Rows.fnAlphanumericAppendDecimalSpec) :=
  OpenClaim.holds_of_wide 3 Try.f3 rfl rfl rfl rfl rfl rfl rfl ⟨rfl, rfl, rfl, rfl, rfl⟩ rfl rfl rfl rfl rfl (by kernel_rfl) Try.func3 (by kernel_rfl)
    (of_decide_eq_true (by kernel_rfl)) (by unfold Func.isWrapper; first | (rw [if_pos (by decide +kernel)]; kernel_rfl) | (rw [if_neg (by decide +kernel)]; exact ⟨rfl, rfl⟩))
    (fun os started H enc _ => lifted os started H enc)

/-- ████ THE STATEMENT ████ -/
theorem proved : Rows.FnAlphanumericAppendDecimalSaid :=
  over
end Go.Proofs.Qxb6628818a.fnAlphanumericAppendDecimal
