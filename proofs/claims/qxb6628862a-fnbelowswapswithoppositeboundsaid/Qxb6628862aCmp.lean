/- zzCmpB1 (function 7), bytes.Compare (9), Bound.Below (6): contracts. -/
import Derived.Test.Qxb6628862aRows
import Derived.Test.Qxb6628862aPlain
import Derived.Lib.BytesEntry
import Derived.WalkKit
import Derived.WalkSpells
import Derived.Deep.QuietTactic
import Derived.BigQuiet
namespace Go.Proofs.Qxb6628862a
open Go.RowKit
open Go.Lib (compareBytes)

theorem hide {p : Prop} (h : p) : Hid p := h
theorem ret_int {k : IntKind} {a b : Int} (h : a = b) : Ending.returned (.int k a) = .returned (.int k b) := by rw [h]
theorem ret_bool {a b : Bool} (h : a = b) : Ending.returned (.bool a) = .returned (.bool b) := by rw [h]

/-- a slice's elements lie in memory: the bytes xs -/
def Row (w : World) (a : Option Addr) (xs : List UInt8) : Prop :=
  xs ≠ [] → ∃ b off, a = some ⟨b, off, none⟩ ∧ ∀ i (h : i < xs.length), w.cell? ⟨b, off + i, none⟩ = some (.int .u8 ((xs[i]'h).toNat : Int))

theorem Row.below {w w' : World} {a : Option Addr} {xs : List UInt8} (h : Row w a xs) (hb : Below w.heap.size w w') : Row w' a xs := by
  intro hx
  obtain ⟨b, off, rfl, hc⟩ := h hx
  exact ⟨b, off, rfl, fun i hi => (hb.cell (World.block_lt_of_cell? _ _ (hc i hi))).trans (hc i hi)⟩

/-! ### zzCmpB1 -/
set_option maxHeartbeats 400000 in
theorem cmp_empty (a b : Option Addr) (la ca lb cb : Nat) (w : World) (h : la = 0 ∨ lb = 0) (hla : la ≤ 1048576) (hlb : lb ≤ 1048576) :
    Calls Try.prog 7 #[.slice a la ca, .slice b lb cb] w fun e w' => e = .returned (.int .i64 (if la < lb then -1 else if lb < la then 1 else 0)) ∧ ∃ n, w' = w.drewN n := by
  rcases h with rfl | rfl
  · by_cases h2 : lb = 0
    · subst h2
      go_enter Try.func7, Try.ntmps7
      go_wp2
      refine wp_loop_rounds 1 ?_
      rw [rounds_succ]
      go_wp2
      go_ret
      exact ⟨rfl, 0, rfl⟩
    · have hp : (0 : Int) < (lb : Int) := by omega
      go_enter Try.func7, Try.ntmps7
      go_wp2
      refine wp_loop_rounds 1 ?_
      rw [rounds_succ]
      go_wp2
      go_ret
      exact ⟨ret_int (by simp), 0, rfl⟩
  · by_cases h2 : la = 0
    · subst h2
      go_enter Try.func7, Try.ntmps7
      go_wp2
      refine wp_loop_rounds 1 ?_
      rw [rounds_succ]
      go_wp2
      go_ret
      exact ⟨rfl, 0, rfl⟩
    · have hp : (0 : Int) < (la : Int) := by omega
      go_enter Try.func7, Try.ntmps7
      go_wp2
      refine wp_loop_rounds 1 ?_
      rw [rounds_succ]
      go_wp2
      go_ret
      exact ⟨ret_int (by simp), 0, rfl⟩

set_option maxHeartbeats 1000000 in
theorem cmp_full (b1 o1 b2 o2 ca cb : Nat) (xs ys : List UInt8) (w : World) (hla : xs.length ≤ 1048576) (hlb : ys.length ≤ 1048576)
    (hx : ∀ i (h : i < xs.length), w.cell? ⟨b1, o1 + i, none⟩ = some (.int .u8 ((xs[i]'h).toNat : Int)))
    (hy : ∀ i (h : i < ys.length), w.cell? ⟨b2, o2 + i, none⟩ = some (.int .u8 ((ys[i]'h).toNat : Int))) :
    Calls Try.prog 7 #[.slice (some ⟨b1, o1, none⟩) xs.length ca, .slice (some ⟨b2, o2, none⟩) ys.length cb] w fun e w' => e = .returned (.int .i64 (compareBytes xs ys)) ∧ ∃ n, w' = w.drewN n := by
  by_cases hmin : (ys.length : Int) < (xs.length : Int)
  all_goals
    go_enter Try.func7, Try.ntmps7
    go_wp2
    go_loopw [6] (fun i wr => ∃ k m : Nat, k ≤ xs.length ∧ k ≤ ys.length ∧ i = .int .i64 k ∧ Hid (compareBytes xs ys = compareBytes (xs.drop k) (ys.drop k)) ∧ wr = w.drewN m) (fun i _ => xs.length - (intOf i).toNat)
    case atStart => exact ⟨0, 0, by omega, by omega, rfl, rfl, rfl⟩
    case round =>
      obtain ⟨k, m, hk1, hk2, rfl, hcmp, rfl⟩ := hrel
      by_cases hlt : k < xs.length ∧ k < ys.length
      · obtain ⟨h1, h2⟩ := hlt
        have c1 := hx k h1
        have c2 := hy k h2
        have i1 : (k : Int) < (xs.length : Int) := by omega
        have i2 : (k : Int) < (ys.length : Int) := by omega
        have st := hide (hcmp.out.trans (Plain.cmp_drop_step h1 h2))
        clear hx hy
        go_wp2
        go_quiet (fail)
        go_wp2
        · have g1 : xs[k].toNat < ys[k].toNat := by assumption
          have HR := hide (st.out.trans (if_pos g1))
          clear st
          go_ret
          exact ⟨ret_int HR.out.symm, _, World.drewN_drewN _ _ _⟩
        · have g1 : ¬ xs[k].toNat < ys[k].toNat := by assumption
          have HR := hide (st.out.trans (if_neg g1))
          clear st
          go_quiet (fail)
          go_wp2
          · have g2 : ys[k].toNat < xs[k].toNat := by assumption
            have HR2 := hide (HR.out.trans (if_pos g2))
            clear HR
            go_ret
            exact ⟨ret_int HR2.out.symm, _, by rw [World.drewN_drewN, World.drewN_drewN]⟩
          · have g2 : ¬ ys[k].toNat < xs[k].toNat := by assumption
            have HR2 := hide (HR.out.trans (if_neg g2))
            clear HR
            go_roundw
            case rel => exact ⟨k + 1, _, by omega, by omega, by go_num, HR2.out, by first | rfl | rw [World.drewN_drewN, World.drewN_drewN]⟩
            case measure => simp [intOf]; omega
      · have st := hide (hcmp.out.trans (Plain.cmp_drop_end (xs := xs) (ys := ys) (k := k) (by omega)))
        clear hx hy
        go_wp2
        all_goals
          go_ret
          exact ⟨ret_int (by rw [st.out]; first | rw [if_pos (by omega)] | rw [if_neg (by omega), if_pos (by omega)] | rw [if_neg (by omega), if_neg (by omega)]), m, rfl⟩

/-- zzCmpB1 on any two slices: the lexicographic order -/
theorem cmp_any (a b : Option Addr) (la ca lb cb : Nat) (xs ys : List UInt8) (w : World) (h1 : xs.length = la) (h2 : ys.length = lb) (hla : la ≤ 1048576) (hlb : lb ≤ 1048576)
    (hx : Row w a xs) (hy : Row w b ys) :
    Calls Try.prog 7 #[.slice a la ca, .slice b lb cb] w fun e w' => e = .returned (.int .i64 (compareBytes xs ys)) ∧ ∃ n, w' = w.drewN n := by
  subst h1 h2
  by_cases h : xs = [] ∨ ys = []
  · have e : compareBytes xs ys = if xs.length < ys.length then -1 else if ys.length < xs.length then 1 else 0 := by
      have := Plain.cmp_drop_end (xs := xs) (ys := ys) (k := 0) (by rcases h with rfl | rfl <;> simp)
      simpa using this
    rw [e]
    exact cmp_empty a b xs.length ca ys.length cb w (by rcases h with rfl | rfl <;> simp) hla hlb
  · obtain ⟨b1, o1, rfl, c1⟩ := hx (fun e => h (.inl e))
    obtain ⟨b2, o2, rfl, c2⟩ := hy (fun e => h (.inr e))
    exact cmp_full b1 o1 b2 o2 ca cb xs ys w hla hlb c1 c2

/-! ### bytes.Compare -/
theorem bytesOf_slice (w : World) (a : Option Addr) (xs : List UInt8) (c : Nat) (hx : Row w a xs) :
    (Extern.Bytes.bytesOf (.slice a xs.length c)).run Try.prog w = .ok ⟨xs.toArray⟩ w := by
  by_cases h : xs = []
  · subst h
    cases a with
    | none => simp [Extern.Bytes.bytesOf, Sem.run_pure]; rfl
    | some x => simp [Extern.Bytes.bytesOf, Extern.Bytes.loadBytes, Sem.run_pure]; rfl
  · obtain ⟨b, off, rfl, hc⟩ := hx h
    have hl := Lib.run_loadBytesX (P := Try.prog) w (xs.map fun u => (u.toNat : Int)) ⟨b, off, none⟩ .empty (fun j x hj => by
      have hjl : j < xs.length := by simpa using (List.getElem?_eq_some_iff.1 hj).1
      have e : (⟨b, off, none⟩ : Addr).add j = ⟨b, off + j, none⟩ := by unfold Addr.add; split <;> simp_all
      rw [e, hc j hjl]
      simp [List.getElem?_eq_getElem hjl] at hj
      rw [hj])
    have e2 : Lib.bytesOf (xs.map fun u => (u.toNat : Int)) = xs := by
      unfold Lib.bytesOf
      rw [List.map_map]
      refine (List.map_congr_left (g := id) fun u _ => ?_).trans (List.map_id _)
      simp
    rw [List.length_map, e2] at hl
    simp only [Extern.Bytes.bytesOf]
    rw [hl]
    congr 1
    apply ByteArray.ext
    show (#[] : Array UInt8) ++ xs.toArray = xs.toArray
    simp

theorem run_compare (w : World) (a b : Option Addr) (xs ys : List UInt8) (ca cb : Nat) (hx : Row w a xs) (hy : Row w b ys) :
    (Extern.BytealgCompare.compare #[.slice a xs.length ca, .slice b ys.length cb]).run Try.prog w = .ok (.int .i64 (compareBytes xs ys)) w := by
  change Sem.run Try.prog (do pure (goInt (Extern.BytealgCompare.cmp (← Extern.Bytes.bytesOf (.slice a xs.length ca)) (← Extern.Bytes.bytesOf (.slice b ys.length cb))))) w = _
  simp only [Sem.run_bind, Sem.run_pure, bytesOf_slice w a xs ca hx, bytesOf_slice w b ys cb hy, Result.andThen]
  rw [Lib.cmp_eq]
  rfl

set_option maxHeartbeats 400000 in
theorem bytes_compare (a b : Option Addr) (la ca lb cb : Nat) (xs ys : List UInt8) (w : World) (h1 : xs.length = la) (h2 : ys.length = lb) (hx : Row w a xs) (hy : Row w b ys) :
    Calls Try.prog 9 #[.slice a la ca, .slice b lb cb] w fun e w' => e = .returned (.int .i64 (compareBytes xs ys)) ∧ w' = w := by
  subst h1 h2
  have hr := run_compare w a b xs ys ca cb hx hy
  have HR := hide hr
  clear hr hx hy
  go_enter Try.func9, Try.ntmps9
  go_wp2
  rw [run_callFunc_extern Try.func10 (by kernel_rfl) (by kernel_rfl) (by kernel_rfl) (e := Extern.BytealgCompare.compare) (by kernel_rfl), HR.out]
  simp only [Result.andThen]
  rw [Oper.upon_value]
  go_wp2
  go_ret
  exact ⟨rfl, rfl⟩

/-! ### Bound.Below -/
theorem nilSlice (w : World) (a : Option Addr) (n c : Nat) : (binOp .eql 22 (.slice a n c) (.slice none 0 0)).run Try.prog w = .ok (.bool a.isNone) w := Lib.run_eql_slice_nil w 22 5 a n c 0 0 Try.underlying22

/-- whether a key lies below a bound that is not the end -/
def below (key k : List UInt8) (after : Bool) : Bool := decide (compareBytes key k < 0) || (decide (compareBytes key k = 0) && after)

theorem below_lt {xs ks : List UInt8} {after : Bool} (h : compareBytes xs ks = -1) : below xs ks after = true := by rw [below, h]; rfl
theorem below_eq {xs ks : List UInt8} {after : Bool} (h : compareBytes xs ks = 0) : below xs ks after = after := by rw [below, h]; simp
theorem below_gt {xs ks : List UInt8} {after : Bool} (h : compareBytes xs ks = 1) : below xs ks after = false := by rw [below, h]; rfl

set_option maxHeartbeats 400000 in
theorem below_nil (n c : Nat) (after : Bool) (v : Value) (w : World) :
    Calls Try.prog 6 #[.agg #[.slice none n c, .bool after], v] w fun e w' => e = .returned (.bool true) ∧ Below w.heap.size w w' := by
  have hq := nilSlice
  go_enter Try.func6, Try.ntmps6
  go_wp2
  go_ret
  exact ⟨rfl, (Below.refl _ _).alloc (Nat.le_refl _) _⟩

set_option maxHeartbeats 400000 in
theorem below_some (x : Addr) (lk ck : Nat) (after : Bool) (b : Option Addr) (lb cb : Nat) (ks xs : List UInt8) (w : World) (h1 : ks.length = lk) (h2 : xs.length = lb) (hk : Row w (some x) ks) (hx : Row w b xs) :
    Calls Try.prog 6 #[.agg #[.slice (some x) lk ck, .bool after], .slice b lb cb] w fun e w' => e = .returned (.bool (below xs ks after)) ∧ Below w.heap.size w w' := by
  have hq := nilSlice
  have hb : ∀ o, Below w.heap.size w (w.alloc o) := fun o => (Below.refl _ _).alloc (Nat.le_refl _) _
  have HK := hide fun o => hk.below (hb o)
  have HX := hide fun o => hx.below (hb o)
  clear hk hx hb
  have H1 := hide h1
  have H2 := hide h2
  clear h1 h2
  go_enter Try.func6, Try.ntmps6
  go_wp2_with fail
  refine (bytes_compare _ _ _ _ _ _ xs ks _ H2.out H1.out (HX.out _) (HK.out _)).mono ?_
  rintro e w' ⟨rfl, rfl⟩
  rcases Plain.cmp_range xs ks with h | h | h
  · have HB := hide (below_lt (after := after) h)
    rw [h]
    go_wp2
    go_ret
    exact ⟨ret_bool HB.out.symm, (Below.refl _ _).alloc (Nat.le_refl _) _⟩
  · have HB := hide (below_eq (after := after) h)
    rw [h]
    go_wp2
    go_ret
    exact ⟨ret_bool HB.out.symm, (Below.refl _ _).alloc (Nat.le_refl _) _⟩
  · have HB := hide (below_gt (after := after) h)
    rw [h]
    go_wp2
    go_ret
    exact ⟨ret_bool HB.out.symm, (Below.refl _ _).alloc (Nat.le_refl _) _⟩

end Go.Proofs.Qxb6628862a
