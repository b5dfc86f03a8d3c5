/- The proof of 'Rows.FnIsTokenAcceptsLowerHexOf20BytesOnlySaid'. The frame below the walk is the given shell's. -/
import Derived.Test.Qxb6628938aRows
import Derived.Test.Qxb6628938aHex
import Derived.WalkKit
import Derived.ProofKit
import Derived.OpenShut
import Derived.ShutString
import Derived.ChangeOld
import Derived.Below
namespace Go.Proofs.Qxb6628938a.fnIsTokenAcceptsLowerHexOf20BytesOnly
open Go.ChangeShapes Go.WideShapes Go.ChangeAt Go.RowKit
open Go.ChangeMaps (open_string shut_string)
set_option linter.unusedVariables false

theorem own : ownKnob Try.prog.godebug = none := by kernel_rfl
theorem laidOut : laidOutB Try.prog = true := by kernel_rfl

/-- WHAT THE WALK IS TOLD OF A SLICE OF INTEGERS THAT CAME IN: it is nil; or it leads to a row of 'cap' cells, the numbers 'zs' (the first 'len' are its elements, the rest its spare room), each fitting its kind. -/
def IsRow (k : IntKind) (w : World) (a : Option Addr) (len cap : Nat) (zs : List Int) : Prop :=
  (a = none ∧ len = 0 ∧ cap = 0 ∧ zs = []) ∨
  ∃ x, a = some x ∧ len ≤ cap ∧ cap ≤ maxLen ∧ zs.length = cap ∧ (∀ i, i < zs.length → w.cell? (x.add i) = some (.int k (zs.getD i 0))) ∧ ∀ n ∈ zs, (Lit.int k n).wf = true

open Plain (hexc hexS tok)

theorem u8_bounds {n : Int} (h : (Lit.int .u8 n).wf = true) : 0 ≤ n ∧ n ≤ 255 := by
  simp [Lit.wf, IntKind.min, IntKind.max, IntKind.bits, IntKind.signed] at h
  omega

theorem row_of {w : World} {a : Option Addr} {len cap : Nat} {zs : List Int} (h : IsRow .u8 w a len cap zs) :
    ∃ xs : List Int, xs.length = len ∧ Row w a xs := by
  rcases h with ⟨rfl, rfl, rfl, rfl⟩ | ⟨x, rfl, hl, hm, hz, hc, hw⟩
  · exact ⟨[], rfl, fun n hn => absurd hn (by simp), fun h => absurd rfl h⟩
  · refine ⟨zs.take len, by simp; omega, fun n hn => u8_bounds (hw n (List.mem_of_mem_take hn)), fun hne => ?_⟩
    have hpos : 0 < len := by
      rcases Nat.eq_zero_or_pos len with e | e
      · subst e; simp at hne
      · exact e
    obtain ⟨b, off, spot⟩ := x
    have h0 := hc 0 (by omega)
    have hspot : spot = none := by simpa [Addr.add] using World.cell?_spot h0
    subst hspot
    refine ⟨b, off, rfl, fun i hi => ?_⟩
    have hi' : i < len := by simp at hi; omega
    have e : (⟨b, off, none⟩ : Addr).add i = ⟨b, off + i, none⟩ := by unfold Addr.add; split <;> simp_all
    have h1 := hc i (by omega)
    rw [e] at h1
    rw [h1]
    simp [List.getD, hi']

theorem len_le {w : World} {a : Option Addr} {len cap : Nat} {zs : List Int} (h : IsRow .u8 w a len cap zs) : (len : Int) ≤ 9223372036854775807 := by
  rcases h with ⟨_, rfl, _, _⟩ | ⟨_, _, hl, hm, _⟩
  · simp
  · unfold maxLen at hm; omega

theorem zzb_yes (a : Option Addr) (la ca : Nat) (i : Int) (w : World) (h : (la : Int) ≤ 1048576) :
    Calls Try.prog 9 #[.slice a la ca, .int .i64 i] w fun e w' => e = .returned (.bool true) ∧ w' = w := by
  go_enter Try.func9, Try.ntmps9
  go_wp2
  go_ret
  exact ⟨rfl, rfl⟩

theorem zzb_no (a : Option Addr) (la ca : Nat) (i : Int) (w : World) (h : (1048576 : Int) < (la : Int)) :
    Calls Try.prog 9 #[.slice a la ca, .int .i64 i] w fun e w' => e = .returned (.bool false) ∧ w' = w := by
  go_enter Try.func9, Try.ntmps9
  go_wp2
  go_ret
  exact ⟨rfl, rfl⟩

/-! ### STEP 1: THE WALK -/
set_option maxHeartbeats 1000000 in
/-- the position lies outside the text -/
theorem walk_out (a0 : Option Addr) (la ca : Nat) (zs : List Int) (i : Int) (w : World) (hl : zs.length = la) (hr : Row w a0 zs) (hs : (la : Int) ≤ 65536) (ho : i < 0 ∨ 2 * (la : Int) ≤ i) :
    Calls Try.prog 4 #[.slice a0 la ca, .int .i64 i] w fun e w' => e = .returned (.bool true) ∧ Below w.heap.size w w' := by
  have HL := hide hl
  have HR := hide hr
  clear hl hr
  obtain ⟨q, hq⟩ : ∃ q : Bool, ((la : Int) == 20) = q := ⟨_, rfl⟩
  have HQ : Hid (decide (2 * la = 40) = q) := by
    rw [← hq]; show _ = _
    rw [Bool.eq_iff_iff]; simp; omega
  have hle : la ≤ 65536 := by omega
  rcases ho with ho | ho
  all_goals
    first
    | (have hd : decide (i < 0) = true := by simpa using ho)
    | (have hd : decide (i < 0) = false := by simp; omega)
    go_enter Try.func4, Try.ntmps4
    go_wp2_with fail
    refine (zzb_yes _ _ _ _ _ (by omega)).mono ?_
    rintro e w1 ⟨rfl, rfl⟩
    go_wp2_with fail
    refine (lowerHex _ _ _ zs _ HL.out hle HR.out).mono ?_
    rintro e w2 ⟨es, rfl, hel, hex, hblk, hb⟩
    have hcv := hblk.conv (2 * la) hel
    have HT := hide ((tok_hex hel hex).trans HQ.out)
    have HZ := hide (show (strOfNums es).size ≤ 9223372036854775807 by rw [strOfNums_size, hel]; omega)
    have HB := hide hb
    clear hel hex hblk hb
    go_wp2_with fail
    refine (isTok _ _ HZ.out).mono ?_
    rintro e w3 ⟨rfl, rfl⟩
    rw [HT.out]
    go_wp2
    go_ret
    exact ⟨by simp, HB.out⟩

theorem lowerHexN (a : Option Addr) (la ca n : Nat) (zs : List Int) (w : World) (hn : 2 * la = n) (hl : zs.length = la) (hle : la ≤ 65536) (hr : Row w a zs) :
    Calls Try.prog 10 #[.slice a la ca] w fun e w' => ∃ es : List Int, e = .returned (.slice (some ⟨w.heap.size, 0, none⟩) n n) ∧ es.length = n ∧ (∀ i, i < n → hexv (es.getD i 0)) ∧ Blk w.heap.size es w' ∧ Below w.heap.size w w' := by
  subst hn
  exact lowerHex a la ca zs w hl hle hr

theorem copy_set {es fs : List Int} {n k : Nat} (h1 : es.length = n) (h2 : fs.length = n) (hk : k < n) (h : ∀ i, i < k → fs.getD i 0 = es.getD i 0) :
    (fs.set k (es.getD k 0)).length = n ∧ ∀ i, i < k + 1 → (fs.set k (es.getD k 0)).getD i 0 = es.getD i 0 := by
  refine ⟨by simpa using h2, fun i hi => ?_⟩
  by_cases e : i = k
  · subst e
    simp [List.getD, h1, h2, hk]
  · have := h i (by omega)
    simpa [List.getD, List.getElem?_set, show ¬ k = i by omega] using this

theorem copy_end {es fs : List Int} {n : Nat} (h1 : es.length = n) (h2 : fs.length = n) (h : ∀ i, i < n → fs.getD i 0 = es.getD i 0) : fs = es := by
  apply List.ext_getElem (by omega)
  intro i a b
  have := h i (by omega)
  rw [List.getD, List.getD, List.getElem?_eq_getElem a, List.getElem?_eq_getElem b] at this
  exact this

set_option maxHeartbeats 1000000 in
/-- the position lies within the text -/
theorem walk_in (a0 : Option Addr) (la ca : Nat) (zs : List Int) (i n : Nat) (w : World) (hn : 2 * la = n) (hl : zs.length = la) (hr : Row w a0 zs) (hs : (la : Int) ≤ 65536) (hi : (i : Int) < (n : Int)) :
    Calls Try.prog 4 #[.slice a0 la ca, .int .i64 (i : Int)] w fun e w' => e = .returned (.bool true) ∧ Below w.heap.size w w' := by
  have HL := hide hl
  have HR := hide hr
  clear hl hr
  obtain ⟨q, hq⟩ : ∃ q : Bool, ((la : Int) == 20) = q := ⟨_, rfl⟩
  have HQ : Hid (decide (n = 40) = q) := by
    rw [← hq]; show _ = _
    rw [Bool.eq_iff_iff]; simp; omega
  have hle : la ≤ 65536 := by omega
  have hn2 : n ≤ 131072 := by omega
  have HN := hide hn
  clear hn
  have hmk := mk_run n (by omega)
  have hd : decide ((i : Int) < 0) = false := by simp
  go_enter Try.func4, Try.ntmps4
  go_wp2_with fail
  refine (zzb_yes _ _ _ _ _ (by omega)).mono ?_
  rintro e w1 ⟨rfl, rfl⟩
  go_wp2_with fail
  refine (lowerHexN _ _ _ n zs _ HN.out HL.out hle HR.out).mono ?_
  rintro e w2 ⟨es, rfl, hel, hex, hblk, hb⟩
  have hcv := hblk.conv n hel
  have HT := hide ((tok_hex hel hex).trans HQ.out)
  have HZ := hide (show (strOfNums es).size ≤ 9223372036854775807 by rw [strOfNums_size, hel]; omega)
  have HB := hide hb
  have HE := hide hel
  have HX := hide hex
  have HK := hide hblk
  clear hel hex hblk hb
  go_wp2_with fail
  refine (isTok _ _ HZ.out).mono ?_
  rintro e w3 ⟨rfl, rfl⟩
  rw [HT.out]
  clear hcv HZ
  have hlt0 : w1.heap.size < w3.heap.size := HK.out.lt
  go_wp2_with fail
  go_loopw [9] (fun j wr => ∃ (k : Nat) (fs : List Int), k ≤ n ∧ j = .int .i64 k ∧ Hid (fs.length = n) ∧ Hid (∀ i, i < k → fs.getD i 0 = es.getD i 0) ∧ Blk w3.heap.size fs wr ∧ Blk w1.heap.size es wr ∧ Below w1.heap.size w1 wr) (fun j _ => n - (intOf j).toNat)
  case atStart => exact ⟨0, _, Nat.zero_le _, rfl, List.length_replicate, fun i hi => absurd hi (Nat.not_lt_zero i), Blk.made w3 n, HK.out.below ((Below.refl _ _).alloc (Nat.le_refl _) _), HB.out.alloc (Nat.le_of_lt hlt0) _⟩
  case round =>
    obtain ⟨k, fs, hk, rfl, hfl, hfe, hbf, hbe, hb⟩ := hrel
    by_cases hlt : k < n
    · have hlt' : (k : Int) < (n : Int) := by omega
      have ce := hbe.cell (i := k) (by rw [HE.out]; exact hlt)
      have cf := hbf.cell (i := k) (by rw [hfl.out]; exact hlt)
      have ff := hbf.frozen k
      have HS := hide (copy_set HE.out hfl.out hlt hfe.out)
      have hbf2 := hbf.put k (es.getD k 0)
      have hbe2 := hbe.other k (.int .u8 (es.getD k 0)) (show w1.heap.size ≠ w3.heap.size by omega)
      have HF2 := hide hbf2
      have HE2 := hide hbe2
      clear hbf2 hbe2
      generalize es.getD k 0 = z at ce HS HF2 HE2
      go_wp2
      go_roundw
      case rel => exact ⟨k + 1, _, by omega, by go_num, HS.out.1, HS.out.2, HF2.out, HE2.out, hb.setCell (Nat.le_of_lt hlt0) _⟩
      case measure => simp [intOf]; omega
    · obtain rfl : k = n := by omega
      obtain rfl : fs = es := copy_end HE.out hfl.out hfe.out
      clear hfe
      have hi2 : i < k := by omega
      have hv := HX.out i hi2
      have ce := hbe.cell (i := i) (by rw [HE.out]; exact hi2)
      have cf := hbf.cell (i := i) (by rw [HE.out]; exact hi2)
      have ff := hbf.frozen i
      have HU := hide fun d h0 h1 => tok_upper (es := fs) (i := i) (d := d) (by rw [HE.out]; exact hi2) h0 h1
      have HP := hide fun d => hbf.put i d
      generalize hz : fs.getD i 0 = z at ce cf hv
      have HZ := hide hz
      clear hz
      rcases hv with ⟨v0, v1⟩ | ⟨v0, v1⟩
      · have hcv := hbf.conv k HE.out
        have d97 : decide ((97 : Int) ≤ z) = false := by simp; omega
        go_wp2_with fail
        refine (isTok _ _ (by rw [strOfNums_size, HE.out]; omega)).mono ?_
        rintro e w4 ⟨rfl, rfl⟩
        rw [HT.out]
        cases q
        all_goals
          go_wp2
          go_ret
          exact ⟨rfl, hb⟩
      · have hcv := (HP.out (z - 32)).conv k (by rw [List.length_set]; exact HE.out)
        have d57 : decide (z ≤ (57 : Int)) = false := by simp; omega
        go_wp2_with fail
        refine (isTok _ _ (by rw [strOfNums_size, List.length_set, HE.out]; omega)).mono ?_
        rintro e w4 ⟨rfl, rfl⟩
        rw [HU.out (z - 32) (by omega) (by omega)]
        cases q
        all_goals
          go_wp2
          go_ret
          exact ⟨rfl, hb.setCell (Nat.le_of_lt hlt0) _⟩

theorem walk (a0 : Option Addr) (len0 cap0 : Nat) (z0 : List Int) (a1 : Int) (w : World) (w0 : IsRow .u8 w a0 len0 cap0 z0) (w1 : (Lit.int .i64 a1).wf = true) :
    Calls Try.prog 4 #[.slice a0 len0 cap0, .int .i64 a1] w fun e w' => e = .returned (.bool true) ∧ Below w.heap.size w w' := by
  have m0 := len_le w0
  obtain ⟨zs, h0, r0⟩ := row_of w0
  clear w0 w1
  by_cases hs : (len0 : Int) ≤ 1048576
  · by_cases s0 : (len0 : Int) ≤ 65536
    · by_cases ho : a1 < 0 ∨ 2 * (len0 : Int) ≤ a1
      · exact walk_out a0 len0 cap0 zs a1 w h0 r0 s0 ho
      · obtain ⟨i, rfl⟩ := Int.eq_ofNat_of_zero_le (show 0 ≤ a1 by omega)
        exact walk_in a0 len0 cap0 zs i (2 * len0) w rfl h0 r0 s0 (by omega)
    · clear r0 h0
      go_enter Try.func4, Try.ntmps4
      go_wp2_with fail
      refine (zzb_yes _ _ _ _ _ hs).mono ?_
      rintro e w1 ⟨rfl, rfl⟩
      go_wp2
      go_ret
      exact ⟨rfl, Below.refl _ _⟩
  · clear r0 h0
    go_enter Try.func4, Try.ntmps4
    go_wp2_with fail
    refine (zzb_no _ _ _ _ _ (by omega)).mono ?_
    rintro e w1 ⟨rfl, rfl⟩
    go_wp2
    go_ret
    exact ⟨rfl, Below.refl _ _⟩

/-! ### THE ROW's STEP: WRITTEN OUT: LEAVE IT -/
set_option maxRecDepth 100000 in
theorem lifted (os : Os) (started : os.Started) (H : Type) (enc : TypeId × Value → H) :
    ReturnsInHanded {} Try.checked os 4 .any (Rows.fnIsTokenAcceptsLowerHexOf20BytesOnlySpec.pre6 enc Try.prog Try.f4 Rows.fnIsTokenAcceptsLowerHexOf20BytesOnlyRow.domain false) (Rows.fnIsTokenAcceptsLowerHexOf20BytesOnlySpec.post enc Try.prog Try.f4 false true false false) := by
  refine returnsInHanded_of_change (C := Try.checked) own started (by kernel_rfl) Try.func4
    (ChangeSpec.witness6 (enc := enc) (C := Try.checked) false ⟨#[], #[.slice none 0 0, .int .i64 0], []⟩ 8 (by kernel_rfl) (by kernel_rfl) (by kernel_rfl) (by kernel_rfl)) ?_
  intro W base args ds gs before hval0 hW hcnd _
  have hval : ∀ (j : Nat) t v, Try.f4.params[j]? = some t → args[j]? = some v → Value.okWide Try.prog W .any base t v := hval0
  have hW' := hW
  obtain ⟨p, q, hA0, hV, rfl, hfz, hnd⟩ := hW
  have hA : DataW.TrodAll enc Try.prog W 0 (fun _ => true) true Try.f4.params.toList args.toList ds p := hA0
  rw [Try.params4] at hA hval
  obtain ⟨v0, vs0, d0, ds0, p0, q0, hargs, rfl, rfl, h0, r0⟩ := trodAll_cons hA
  obtain ⟨v1, vs1, d1, ds1, p1, q1, rfl, rfl, rfl, h1, r1⟩ := trodAll_cons r0
  obtain ⟨rfl, rfl, rfl⟩ := trodAll_nil r1
  obtain rfl : args = #[v0, v1] := by cases args; simp_all
  obtain ⟨rfl, rfl⟩ := trodVars_none hV
  obtain ⟨a0, len0, cap0, rfl⟩ := okWide_slice Try.underlying25 (hval 0 25 v0 rfl rfl)
  have k0 := h0
  have lt0 : ∀ x ∈ p0, x.block < W.heap.size := by obtain ⟨m, hm⟩ := k0; exact DataW.trod_lt m _ _ _ hm
  obtain ⟨z0, w0⟩ : ∃ zs, IsRow .u8 W a0 len0 cap0 zs := by
    obtain ⟨fuel, hf⟩ := h0
    rcases open_ints Try.underlying25 Try.underlying5 (by kernel_rfl) hf with ⟨hcs, _⟩ | ⟨x, l, c, zs, hcs, _, hl, hm, hz, _, hcell, hwz⟩
    · simp [Value.cells] at hcs
      obtain ⟨rfl, rfl, rfl⟩ := hcs
      exact ⟨[], .inl ⟨rfl, rfl, rfl, rfl⟩⟩
    · simp [Value.cells] at hcs
      obtain ⟨rfl, rfl, rfl⟩ := hcs
      exact ⟨zs, .inr ⟨_, rfl, hl, hm, by simpa using hz, hcell, hwz⟩⟩
  obtain ⟨a1, rfl, rfl, rfl, w1⟩ := open_int Try.underlying3 (hval 1 3 v1 rfl rfl) h1
  clear hA0 hval0
  refine (walk a0 len0 cap0 z0 a1 W w0 w1).mono fun e W' ⟨he, bel⟩ => ?_
  subst he
  exact ⟨_, rfl, _, _, _, [], _, [], hW', trodAll_mk1 (shut_bool Try.underlying4 _), (trodAll_cons_mk (Below.trod laidOut (by kernel_rfl) (of_decide_eq_true (by kernel_rfl)) k0 bel lt0) (trodAll_cons_mk (shut_int Try.underlying3 w1) trodAll_mk0)), rfl, bel.frame _, fun h => by cases h⟩

theorem over : Rows.fnIsTokenAcceptsLowerHexOf20BytesOnlyRow.holds Try.pinned (OpenSpec.ofChange Rows.fnIsTokenAcceptsLowerHexOf20BytesOnlySpec) :=
  OpenClaim.holds_of_wide 4 Try.f4 rfl rfl rfl rfl rfl rfl rfl ⟨rfl, rfl, rfl, rfl, rfl⟩ rfl rfl rfl rfl rfl (by kernel_rfl) Try.func4 (by kernel_rfl)
    (of_decide_eq_true (by kernel_rfl)) (by unfold Func.isWrapper; first | (rw [if_pos (by decide +kernel)]; kernel_rfl) | (rw [if_neg (by decide +kernel)]; exact ⟨rfl, rfl⟩))
    (fun os started H enc _ => lifted os started H enc)

/-- ████ THE STATEMENT ████ -/
theorem proved : Rows.FnIsTokenAcceptsLowerHexOf20BytesOnlySaid := over
end Go.Proofs.Qxb6628938a.fnIsTokenAcceptsLowerHexOf20BytesOnly
