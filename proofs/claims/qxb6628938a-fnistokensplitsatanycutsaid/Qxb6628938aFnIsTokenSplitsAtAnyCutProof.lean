/- The proof of 'Rows.FnIsTokenSplitsAtAnyCutSaid'. The frame below the walk is the given shell's. -/
import Derived.Test.Qxb6628938aRows
import Derived.Test.Qxb6628938aStr
import Derived.WalkKit
import Derived.ProofKit
import Derived.OpenShut
import Derived.ShutString
namespace Go.Proofs.Qxb6628938a.fnIsTokenSplitsAtAnyCut
open Go.ChangeShapes Go.WideShapes Go.ChangeAt Go.RowKit
open Go.ChangeMaps (open_string shut_string)
set_option linter.unusedVariables false      -- a walk need not use every 'w<i>' (that an integer argument fits its kind)

theorem own : ownKnob Try.prog.godebug = none := by kernel_rfl

open Plain (hexc hexS tok)

theorem zzb_yes (a b : ByteArray) (w : World) (h : (a.size : Int) + (b.size : Int) ≤ 1048576) :
    Calls Try.prog 5 #[.string a, .string b] w fun e w' => e = .returned (.bool true) ∧ w' = w := by
  go_enter Try.func5, Try.ntmps5
  go_wp2
  go_ret
  exact ⟨rfl, rfl⟩

theorem zzb_no (a b : ByteArray) (w : World) (h : ¬ (a.size : Int) + (b.size : Int) ≤ 1048576) (m0 : (a.size : Int) ≤ 9223372036854775807) (m1 : (b.size : Int) ≤ 9223372036854775807) :
    Calls Try.prog 5 #[.string a, .string b] w fun e w' => e = .returned (.bool false) ∧ w' = w := by
  by_cases h1 : (1048576 : Int) < (a.size : Int)
  · go_enter Try.func5, Try.ntmps5
    go_wp2
    go_ret
    exact ⟨rfl, rfl⟩
  · by_cases h2 : (1048576 : Int) < (b.size : Int)
    · go_enter Try.func5, Try.ntmps5
      go_wp2
      go_ret
      exact ⟨rfl, rfl⟩
    · go_enter Try.func5, Try.ntmps5
      go_wp2
      go_ret
      exact ⟨rfl, rfl⟩

theorem grown_trans {a b c : World} (h : Grown a b) (k : Grown b c) : Grown a c :=
  ⟨World.keptBut_trans h.1 k.1, fun x => (k.2.1 x).trans (h.2.1 x), Nat.le_trans h.2.2 k.2.2⟩

/-! ### STEP 1: THE WALK -/
set_option maxHeartbeats 1000000 in
theorem walk_small (a0 a1 : ByteArray) (w : World) (hs : (a0.size : Int) + (a1.size : Int) ≤ 1048576) (s0 : (a0.size : Int) ≤ 65536) (s1 : (a1.size : Int) ≤ 65536) :
    Calls Try.prog 3 #[.string a0, .string a1] w fun e w' => e = .returned (.bool true) ∧ Grown w w' := by
  have hadd : ∀ W, (Op.stringOp .add a0 a1).run Try.prog W = .ok (.string (a0 ++ a1)) W := fun W => run_string_add_sum W _ _ (by omega)
  have hz : (a0 ++ a1).size ≤ 9223372036854775807 := by rw [ByteArray.size_append]; omega
  have HZ := hide hz
  clear hz
  by_cases h40 : (a0.size : Int) + (a1.size : Int) = 40
  · have hq : (((a0.size : Int) + (a1.size : Int)) != 40) = false := by rw [bne_eq_false_iff_eq]; exact h40
    obtain ⟨p, hp⟩ : ∃ p, hexS a0.data.toList = p := ⟨_, rfl⟩
    obtain ⟨q, hq2⟩ : ∃ q, hexS a1.data.toList = q := ⟨_, rfl⟩
    have hw : tok (a0 ++ a1).data.toList = (p && q) := by rw [Plain.tok_join (a := a0) (b := a1) (by omega)]; exact congr (congrArg and hp) hq2
    have n0 : (40 : Int) - (a0.size : Int) = (a1.size : Int) := by omega
    have n1 : (40 : Int) - (a1.size : Int) = (a0.size : Int) := by omega
    have HL := hide fun t h => (Plain.tok_left (a := a0) (t := t) (n := a1.size) (by omega) h).trans hp
    have HR := hide fun t h => (Plain.tok_right (b := a1) (t := t) (n := a0.size) (by omega) h).trans hq2
    have hle0 : a0.size ≤ 40 := by omega
    have hle1 : a1.size ≤ 40 := by omega
    have HW := hide hw
    have HP := hide hp
    clear h40 hw hp hq2
    cases p <;> cases q
    all_goals
      go_enter Try.func3, Try.ntmps3
      go_wp2_with fail
      refine (zzb_yes a0 a1 _ hs).mono ?_
      rintro e w1 ⟨rfl, rfl⟩
      go_wp2_with fail
      refine (isTok (a0 ++ a1) _ HZ.out).mono ?_
      rintro e w1 ⟨rfl, rfl⟩
      rw [HW.out]
      go_wp2_with fail
      refine (zeros a1.size _ hle1).mono ?_
      rintro e w1 ⟨t, rfl, ht, hg1⟩
      have hzt : t.size = a1.size := by rw [← Plain.len_size, ht]; simp
      have hadd2 : ∀ W, (Op.stringOp .add a0 t).run Try.prog W = .ok (.string (a0 ++ t)) W := fun W => run_string_add_sum W _ _ (by omega)
      have HZ2 := hide (show (a0 ++ t).size ≤ 9223372036854775807 by rw [ByteArray.size_append]; omega)
      have HTL := hide (HL.out t ht)
      have HG1 := hide hg1
      clear hzt ht hg1
      go_wp2_with fail
      refine (isTok (a0 ++ t) _ HZ2.out).mono ?_
      rintro e w2 ⟨rfl, rfl⟩
      rw [HTL.out]
      go_wp2_with fail
      refine (zeros a0.size _ hle0).mono ?_
      rintro e w2 ⟨t2, rfl, ht, hg2⟩
      have hzt : t2.size = a0.size := by rw [← Plain.len_size, ht]; simp
      have hadd3 : ∀ W, (Op.stringOp .add t2 a1).run Try.prog W = .ok (.string (t2 ++ a1)) W := fun W => run_string_add_sum W _ _ (by omega)
      have HZ3 := hide (show (t2 ++ a1).size ≤ 9223372036854775807 by rw [ByteArray.size_append]; omega)
      have HTR := hide (HR.out t2 ht)
      have HG2 := hide (grown_trans HG1.out hg2)
      clear hzt ht hg2
      go_wp2_with fail
      refine (isTok (t2 ++ a1) _ HZ3.out).mono ?_
      rintro e w3 ⟨rfl, rfl⟩
      rw [HTR.out]
      go_wp2_with fail
      refine (isHex a0 _ (by omega)).mono ?_
      rintro e w3 ⟨rfl, rfl⟩
      rw [HP.out]
      go_wp2
      go_ret
      exact ⟨rfl, HG2.out⟩
  · have hq : (((a0.size : Int) + (a1.size : Int)) != 40) = true := by rw [bne_iff_ne]; exact h40
    have HT := hide (Plain.tok_len (s := a0 ++ a1) (by rw [ByteArray.size_append]; omega))
    clear h40
    go_enter Try.func3, Try.ntmps3
    go_wp2_with fail
    refine (zzb_yes a0 a1 _ hs).mono ?_
    rintro e w1 ⟨rfl, rfl⟩
    go_wp2_with fail
    refine (isTok (a0 ++ a1) _ HZ.out).mono ?_
    rintro e w1 ⟨rfl, rfl⟩
    rw [HT.out]
    go_wp2
    go_ret
    exact ⟨rfl, Grown.refl _⟩

theorem walk (a0 : ByteArray) (a1 : ByteArray) (w0 : a0.size ≤ maxLen) (w1 : a1.size ≤ maxLen) (w : World) :
    Calls Try.prog 3 #[.string a0, .string a1] w fun e w' => e = .returned (.bool true) ∧ Grown w w' := by
  unfold maxLen at w0 w1
  by_cases hs : (a0.size : Int) + (a1.size : Int) ≤ 1048576
  · by_cases s0 : (a0.size : Int) ≤ 65536
    · by_cases s1 : (a1.size : Int) ≤ 65536
      · exact walk_small a0 a1 w hs s0 s1
      · go_enter Try.func3, Try.ntmps3
        go_wp2_with fail
        refine (zzb_yes a0 a1 _ hs).mono ?_
        rintro e w1 ⟨rfl, rfl⟩
        go_wp2
        go_ret
        exact ⟨rfl, Grown.refl _⟩
    · go_enter Try.func3, Try.ntmps3
      go_wp2_with fail
      refine (zzb_yes a0 a1 _ hs).mono ?_
      rintro e w1 ⟨rfl, rfl⟩
      go_wp2
      go_ret
      exact ⟨rfl, Grown.refl _⟩
  · go_enter Try.func3, Try.ntmps3
    go_wp2_with fail
    refine (zzb_no a0 a1 _ (by omega) (by omega) (by omega)).mono ?_
    rintro e w1 ⟨rfl, rfl⟩
    go_wp2
    go_ret
    exact ⟨rfl, Grown.refl _⟩

/-! ### THE ROW's STEP: WRITTEN OUT: LEAVE IT -/
set_option maxRecDepth 100000 in
theorem lifted (os : Os) (started : os.Started) (H : Type) (enc : TypeId × Value → H) :
    ReturnsInHanded {} Try.checked os 3 .any (Rows.fnIsTokenSplitsAtAnyCutSpec.pre6 enc Try.prog Try.f3 Rows.fnIsTokenSplitsAtAnyCutRow.domain false) (Rows.fnIsTokenSplitsAtAnyCutSpec.post enc Try.prog Try.f3 false true false false) := by
  refine returnsInHanded_of_change (C := Try.checked) own started (by kernel_rfl) Try.func3
    (ChangeSpec.witness6 (enc := enc) (C := Try.checked) false ⟨#[], #[.string ByteArray.empty, .string ByteArray.empty], []⟩ 8 (by kernel_rfl) (by kernel_rfl) (by kernel_rfl) (by kernel_rfl)) ?_
  intro W base args ds gs before hval0 hW hcnd _
  have hval : ∀ (j : Nat) t v, Try.f3.params[j]? = some t → args[j]? = some v → Value.okWide Try.prog W .any base t v := hval0
  have hW' := hW
  obtain ⟨p, q, hA0, hV, rfl, hfz, hnd⟩ := hW
  have hA : DataW.TrodAll enc Try.prog W 0 (fun _ => true) true Try.f3.params.toList args.toList ds p := hA0
  rw [Try.params3] at hA hval
  obtain ⟨v0, vs0, d0, ds0, p0, q0, hargs, rfl, rfl, h0, r0⟩ := trodAll_cons hA
  obtain ⟨v1, vs1, d1, ds1, p1, q1, rfl, rfl, rfl, h1, r1⟩ := trodAll_cons r0
  obtain ⟨rfl, rfl, rfl⟩ := trodAll_nil r1
  obtain rfl : args = #[v0, v1] := by cases args; simp_all
  obtain ⟨rfl, rfl⟩ := trodVars_none hV
  obtain ⟨a0, rfl, rfl, rfl, w0⟩ := open_string Try.underlying9 (hval 0 9 v0 rfl rfl) h0
  obtain ⟨a1, rfl, rfl, rfl, w1⟩ := open_string Try.underlying9 (hval 1 9 v1 rfl rfl) h1
  clear hA0 hval0
  simp only [List.append_nil] at hW'
  refine (walk a0 a1 w0 w1 W).mono fun e W' ⟨he, hg⟩ => ?_
  subst he
  exact ⟨_, rfl, post_of_same (pa := []) (pv := []) hW' (fun _ _ _ => (trodAll_cons_mk (shut_bool Try.underlying4 _) trodAll_mk0)) (fun sp _ => (trodAll_cons_mk (shut_string Try.underlying9 w0) (trodAll_cons_mk (shut_string Try.underlying9 w1) trodAll_mk0))) (fun _ _ => rfl) rfl
    (hg.frame _) hg.2.1 (ok_one (by kernel_rfl) rfl (okWide_bool_mk Try.underlying4 _))⟩

theorem over : Rows.fnIsTokenSplitsAtAnyCutRow.holds Try.pinned (OpenSpec.ofChange Rows.fnIsTokenSplitsAtAnyCutSpec) :=
  OpenClaim.holds_of_wide 3 Try.f3 rfl rfl rfl rfl rfl rfl rfl ⟨rfl, rfl, rfl, rfl, rfl⟩ rfl rfl rfl rfl rfl (by kernel_rfl) Try.func3 (by kernel_rfl)
    (of_decide_eq_true (by kernel_rfl)) (by unfold Func.isWrapper; first | (rw [if_pos (by decide +kernel)]; kernel_rfl) | (rw [if_neg (by decide +kernel)]; exact ⟨rfl, rfl⟩))
    (fun os started H enc _ => lifted os started H enc)

/-- ████ THE STATEMENT ████ -/
theorem proved : Rows.FnIsTokenSplitsAtAnyCutSaid :=
  over
end Go.Proofs.Qxb6628938a.fnIsTokenSplitsAtAnyCut
