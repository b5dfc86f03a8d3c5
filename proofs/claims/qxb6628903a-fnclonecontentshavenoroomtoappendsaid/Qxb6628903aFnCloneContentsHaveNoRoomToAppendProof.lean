/- The proof of 'Rows.FnCloneContentsHaveNoRoomToAppendSaid'. -/
import Derived.Test.Qxb6628903aRows
import Derived.Test.Qxb6628903aLaw2
import Derived.Test.Qxb6628903aLaw2Nil
import Derived.Test.Qxb6628903aOpen
import Derived.WalkKit
import Derived.ProofKit
import Derived.OpenShut
import Derived.ShutString
import Derived.ChangeOld
import Derived.Below
import Derived.SizedLaws
namespace Go.Proofs.Qxb6628903a.fnCloneContentsHaveNoRoomToAppend
open Go.ChangeShapes Go.WideShapes Go.ChangeAt Go.RowKit
set_option linter.unusedVariables false

theorem own : ownKnob Try.prog.godebug = none := by kernel_rfl
theorem law2 (ss : List ByteArray) (es : List El) (R : Option Addr → Prop) (na ea : Option Addr) (nc ec : Nat) (nn ne : Bool) (w : World) (hs : Strs w na ss.length nn ss) (he : Els w R ea es.length ne es)
    (l1 : ss.length ≤ 140737488351232) (l2 : es.length ≤ 140737488351232) (hr : Reach ss es) :
    Calls Try.prog 4 #[.slice na ss.length nc, .slice ea es.length ec] w fun e w' => e = .returned (.bool true) ∧ Below w.heap.size w w' := by
  by_cases h : es = []
  · subst h
    exact law2_none ss R na ea nc ec nn ne w hs he l1 hr
  · exact law2_full ss es R na ea nc ec nn ne w hs he l1 l2 hr h

theorem light_of {H : Type} {ts : List TypeId} {ds : List (DataW H)} (h : (DataW.weightsEach Try.prog ts ds).all (· ≤ reachBytes) = true) {j : Nat} {t : TypeId} {d : DataW H} (ht : ts[j]? = some t) (hd : ds[j]? = some d) : Light d t := fun k hk => by
  have := List.all_eq_true.1 h k (DataW.weights_mem_each ht hd k hk)
  exact of_decide_eq_true this

theorem laidOut : laidOutB Try.prog = true := by kernel_rfl

set_option maxHeartbeats 1600000 in
set_option maxRecDepth 100000 in
theorem lifted (os : Os) (started : os.Started) (H : Type) (enc : TypeId × Value → H) :
    ReturnsInHanded {} Try.checked os 4 .any (Rows.fnCloneContentsHaveNoRoomToAppendSpec.pre6 enc Try.prog Try.f4 Rows.fnCloneContentsHaveNoRoomToAppendRow.domain false) (Rows.fnCloneContentsHaveNoRoomToAppendSpec.post enc Try.prog Try.f4 false true false false) := by
  refine returnsInHanded_of_change_sized (C := Try.checked) own started (by kernel_rfl) Try.func4
    (ChangeSpec.witness6 (enc := enc) (C := Try.checked) false ⟨#[], #[.slice none 0 0, .slice none 0 0], []⟩ 8 (by kernel_rfl) (by kernel_rfl) (by kernel_rfl) (by kernel_rfl)) ?_
  intro W base args ds gs before hval0 hW hcnd hsz0 _
  have hsz : (DataW.weightsEach Try.prog (Try.f4.params.toList ++ Rows.fnCloneContentsHaveNoRoomToAppendSpec.plain.varTypes Try.prog) (ds ++ gs)).all (· ≤ reachBytes) = true := hsz0
  clear hsz0
  have hval : ∀ (j : Nat) t v, Try.f4.params[j]? = some t → args[j]? = some v → Value.okWide Try.prog W .any base t v := hval0
  have hW' := hW
  obtain ⟨p, q, hA0, hV, rfl, hfz, hnd⟩ := hW
  have hA : DataW.TrodAll enc Try.prog W 0 (fun _ => true) true Try.f4.params.toList args.toList ds p := hA0
  rw [Try.params4] at hA hval hsz
  obtain ⟨v0, vs0, d0, ds0, p0, q0, hargs, rfl, rfl, h0, r0⟩ := trodAll_cons hA
  obtain ⟨v1, vs1, d1, ds1, p1, q1, rfl, rfl, rfl, h1, r1⟩ := trodAll_cons r0
  obtain ⟨rfl, rfl, rfl⟩ := trodAll_nil r1
  obtain rfl : args = #[v0, v1] := by cases args; simp_all
  obtain ⟨rfl, rfl⟩ := trodVars_none hV
  have L0 : Light d0 22 := light_of hsz (j := 0) rfl rfl
  have L1 : Light d1 23 := light_of hsz (j := 1) rfl rfl
  have k0 := h0
  have k1 := h1
  have lt0 : ∀ x ∈ p0, x.block < W.heap.size := by obtain ⟨m, hm⟩ := k0; exact DataW.trod_lt m _ _ _ hm
  have lt1 : ∀ x ∈ p1, x.block < W.heap.size := by obtain ⟨m, hm⟩ := k1; exact DataW.trod_lt m _ _ _ hm
  obtain ⟨a0, len0, cap0, rfl⟩ := okWide_slice Try.underlying22 (hval 0 22 v0 rfl rfl)
  obtain ⟨a1, len1, cap1, rfl⟩ := okWide_slice Try.underlying23 (hval 1 23 v1 rfl rfl)
  obtain ⟨f0, t0⟩ := h0
  obtain ⟨f1, t1⟩ := h1
  obtain ⟨na, nc, nn, ss, e0, hS, ls, hs⟩ := open_strs t0 L0
  obtain ⟨ea, ec, ne, es, e1, hE, le, he⟩ := open_els t1 L1
  obtain ⟨rfl, rfl, rfl⟩ := Value.slice.inj e0
  obtain ⟨rfl, rfl, rfl⟩ := Value.slice.inj e1
  clear hA0 hval0
  refine (law2 ss es (fun _ => True) a0 a1 cap0 cap1 nn ne W hS hE ls le ⟨hs, he⟩).mono fun e W' ⟨he, bel⟩ => ?_
  subst he
  exact ⟨_, rfl, _, _, _, [], _, [], hW', trodAll_mk1 (shut_bool Try.underlying4 _), (trodAll_cons_mk (Below.trod laidOut (by kernel_rfl) (of_decide_eq_true (by kernel_rfl)) k0 bel lt0) (trodAll_cons_mk (Below.trod laidOut (by kernel_rfl) (of_decide_eq_true (by kernel_rfl)) k1 bel lt1) trodAll_mk0)), rfl, bel.frame _, fun h => by cases h⟩

theorem over : Rows.fnCloneContentsHaveNoRoomToAppendRow.holds Try.pinned (OpenSpec.ofChange Rows.fnCloneContentsHaveNoRoomToAppendSpec) :=
  OpenClaim.holds_of_wide 4 Try.f4 rfl rfl rfl rfl rfl rfl rfl ⟨rfl, rfl, rfl, rfl, rfl⟩ rfl rfl rfl rfl rfl (by kernel_rfl) Try.func4 (by kernel_rfl)
    (of_decide_eq_true (by kernel_rfl)) (by unfold Func.isWrapper; first | (rw [if_pos (by decide +kernel)]; kernel_rfl) | (rw [if_neg (by decide +kernel)]; exact ⟨rfl, rfl⟩))
    (fun os started H enc _ => lifted os started H enc)

theorem proved : Rows.FnCloneContentsHaveNoRoomToAppendSaid := over
end Go.Proofs.Qxb6628903a.fnCloneContentsHaveNoRoomToAppend
