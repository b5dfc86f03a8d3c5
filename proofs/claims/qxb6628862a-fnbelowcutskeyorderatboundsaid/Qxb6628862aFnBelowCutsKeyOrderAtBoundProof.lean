/- The proof of 'Rows.FnBelowCutsKeyOrderAtBoundSaid'. The frame below the walk is the given shell's. -/
import Derived.Test.Qxb6628862aRows
import Derived.Test.Qxb6628862aIn
import Derived.WalkKit
import Derived.ProofKit
import Derived.OpenShut
import Derived.ShutString
import Derived.ChangeOld
import Derived.Below
namespace Go.Proofs.Qxb6628862a.fnBelowCutsKeyOrderAtBound
open Go.ChangeShapes Go.WideShapes Go.ChangeAt Go.RowKit
open Go.ChangeMaps (open_string shut_string)
set_option linter.unusedVariables false

theorem own : ownKnob Try.prog.godebug = none := by kernel_rfl
theorem laidOut : laidOutB Try.prog = true := by kernel_rfl

open Go.Lib (compareBytes)

theorem zzb_yes (a0 a1 a2 : Option Addr) (l0 c0 l1 c1 l2 c2 : Nat) (w : World) (h : (l0 : Int) + (l1 : Int) + (l2 : Int) ≤ 1048576) :
    Calls Try.prog 8 #[.slice a0 l0 c0, .slice a1 l1 c1, .slice a2 l2 c2] w fun e w' => e = .returned (.bool true) ∧ w' = w := by
  go_enter Try.func8, Try.ntmps8
  go_wp2
  go_ret
  exact ⟨rfl, rfl⟩

theorem zzb_no (a0 a1 a2 : Option Addr) (l0 c0 l1 c1 l2 c2 : Nat) (w : World) (h : ¬ (l0 : Int) + (l1 : Int) + (l2 : Int) ≤ 1048576) (m0 : (l0 : Int) ≤ 9223372036854775807) (m1 : (l1 : Int) ≤ 9223372036854775807) (m2 : (l2 : Int) ≤ 9223372036854775807) :
    Calls Try.prog 8 #[.slice a0 l0 c0, .slice a1 l1 c1, .slice a2 l2 c2] w fun e w' => e = .returned (.bool false) ∧ w' = w := by
  by_cases h1 : (1048576 : Int) < (l0 : Int)
  · go_enter Try.func8, Try.ntmps8
    go_wp2
    go_ret
    exact ⟨rfl, rfl⟩
  · by_cases h2 : (1048576 : Int) < (l1 : Int)
    · go_enter Try.func8, Try.ntmps8
      go_wp2
      go_ret
      exact ⟨rfl, rfl⟩
    · by_cases h3 : (1048576 : Int) < (l0 : Int) + (l1 : Int)
      · go_enter Try.func8, Try.ntmps8
        go_wp2
        go_ret
        exact ⟨rfl, rfl⟩
      · by_cases h4 : (1048576 : Int) < (l2 : Int)
        · go_enter Try.func8, Try.ntmps8
          go_wp2
          go_ret
          exact ⟨rfl, rfl⟩
        · go_enter Try.func8, Try.ntmps8
          go_wp2
          go_ret
          exact ⟨rfl, rfl⟩

/-- the two bounds lie in memory: blocks n and n + 1 -/
structure Two (w : World) (n : Nat) (v : Value) : Prop where
  c0 : w.cell? ⟨n, 0, none⟩ = some v
  c1 : w.cell? ⟨n, 1, none⟩ = some (.bool false)
  d0 : w.cell? ⟨n + 1, 0, none⟩ = some v
  d1 : w.cell? ⟨n + 1, 1, none⟩ = some (.bool true)

theorem Two.later {w w' : World} {n : Nat} {v : Value} (h : Two w n v) (hb : Below w.heap.size w w') : Two w' n v :=
  ⟨cell_later hb h.c0, cell_later hb h.c1, cell_later hb h.d0, cell_later hb h.d1⟩

theorem two_start (w : World) (v : Value) : Two ((w.alloc (.cells #[v, .bool false] 25)).alloc (.cells #[v, .bool true] 25)) w.heap.size v := by
  refine ⟨?_, ?_, ?_, ?_⟩
  · rw [World.cell?_alloc_past _ _ _ (by simp), World.cell?_alloc_at _ _ _ _ rfl]; rfl
  · rw [World.cell?_alloc_past _ _ _ (by simp), World.cell?_alloc_at _ _ _ _ rfl]; rfl
  · rw [World.cell?_alloc_at _ _ _ _ (by simp)]; rfl
  · rw [World.cell?_alloc_at _ _ _ _ (by simp)]; rfl

/-- what holds of the memory all along the walk -/
structure St (w : World) (x0 : Addr) (a1 a2 : Option Addr) (ks xs ys : List UInt8) (v : Value) (W : World) : Prop where
  b : Below w.heap.size w W
  r0 : Row W (some x0) ks
  r1 : Row W a1 xs
  r2 : Row W a2 ys
  t : Two W w.heap.size v

theorem St.next {w : World} {x0 : Addr} {a1 a2 : Option Addr} {ks xs ys : List UInt8} {v : Value} {W W' : World} (h : St w x0 a1 a2 ks xs ys v W) (hb : Below W.heap.size W W') : St w x0 a1 a2 ks xs ys v W' :=
  ⟨h.b.trans (hb.mono h.b.size), h.r0.below hb, h.r1.below hb, h.r2.below hb, h.t.later hb⟩

/-! ### STEP 1: THE WALK -/
set_option maxHeartbeats 1000000 in
theorem walk_some (x0 : Addr) (a1 a2 : Option Addr) (l0 c0 l1 c1 l2 c2 : Nat) (ks xs ys : List UInt8) (w : World) (h0 : ks.length = l0) (h1 : xs.length = l1) (h2 : ys.length = l2) (r0 : Row w (some x0) ks) (r1 : Row w a1 xs) (r2 : Row w a2 ys)
    (hs : (l0 : Int) + (l1 : Int) + (l2 : Int) ≤ 1048576) (s0 : (l0 : Int) ≤ 262144) (s1 : (l1 : Int) ≤ 262144) (s2 : (l2 : Int) ≤ 262144) :
    Calls Try.prog 4 #[.slice (some x0) l0 c0, .slice a1 l1 c1, .slice a2 l2 c2] w fun e w' => e = .returned (.bool true) ∧ Below w.heap.size w w' := by
  have hq := nilSlice
  have H0 := hide h0
  have H1 := hide h1
  have H2 := hide h2
  have hb0 : Below w.heap.size w ((w.alloc (.cells #[.slice (some x0) l0 c0, .bool false] 25)).alloc (.cells #[.slice (some x0) l0 c0, .bool true] 25)) := ((Below.refl _ _).alloc (Nat.le_refl _) _).alloc (by simp) _
  have S0 := hide (St.mk hb0 (r0.below hb0) (r1.below hb0) (r2.below hb0) (two_start w (.slice (some x0) l0 c0)))
  clear h0 h1 h2 r0 r1 r2 hb0
  have z0 : l0 ≤ 1048576 := by omega
  have z1 : l1 ≤ 1048576 := by omega
  have z2 : l2 ≤ 1048576 := by omega
  go_enter Try.func4, Try.ntmps4
  go_wp2_with fail
  refine (zzb_yes _ _ _ _ _ _ _ _ _ _ hs).mono ?_
  rintro e w1 ⟨rfl, rfl⟩
  go_wp2_with fail
  refine (below_some _ _ _ _ _ _ _ ks ks _ H0.out H0.out S0.out.r0 S0.out.r0).mono ?_
  rintro e w2 ⟨rfl, hb⟩
  rw [below_eq (after := false) (Plain.cmp_self ks)]
  have S1 := hide (S0.out.next hb)
  clear hb S0
  obtain ⟨f0, f1, g0, g1⟩ := S1.out.t
  go_wp2_with fail
  clear f0 f1 g0 g1
  refine (below_some _ _ _ _ _ _ _ ks ks _ H0.out H0.out S1.out.r0 S1.out.r0).mono ?_
  rintro e w3 ⟨rfl, hb⟩
  rw [below_eq (after := true) (Plain.cmp_self ks)]
  have S2 := hide (S1.out.next hb)
  clear hb S1
  obtain ⟨f0, f1, g0, g1⟩ := S2.out.t
  go_wp2_with fail
  clear f0 f1 g0 g1
  refine (below_some _ _ _ _ _ _ _ ks xs _ H0.out H1.out S2.out.r0 S2.out.r1).mono ?_
  rintro e w4 ⟨rfl, hb⟩
  have S3 := hide (S2.out.next hb)
  clear hb S2
  obtain ⟨f0, f1, g0, g1⟩ := S3.out.t
  go_wp2_with fail
  clear f0 f1 g0 g1
  refine (below_some _ _ _ _ _ _ _ ks xs _ H0.out H1.out S3.out.r0 S3.out.r1).mono ?_
  rintro e w5 ⟨rfl, hb⟩
  have S4 := hide (S3.out.next hb)
  clear hb S3
  go_wp2_with fail
  refine (cmp_bel _ _ _ _ _ _ xs ks _ H1.out H0.out z1 z0 S4.out.r1 S4.out.r0).mono ?_
  rintro e w6 ⟨rfl, hb⟩
  have S5 := hide (S4.out.next hb)
  clear hb S4
  rcases Plain.cmp_range xs ks with hc | hc | hc
  · rw [below_lt hc, below_lt hc, hc]
    have HC := hide hc
    clear hc
    go_wp2_with fail
    refine (cmp_bel _ _ _ _ _ _ xs ys _ H1.out H2.out z1 z2 S5.out.r1 S5.out.r2).mono ?_
    rintro e w7 ⟨rfl, hb⟩
    have S6 := hide (S5.out.next hb)
    clear hb S5
    rcases Plain.cmp_range xs ys with hd | hd | hd
    · rw [hd]
      have HD := hide hd
      clear hd
      obtain ⟨f0, f1, g0, g1⟩ := S6.out.t
      go_wp2_with fail
      clear f0 f1 g0 g1
      refine (below_some _ _ _ _ _ _ _ ks ys _ H0.out H2.out S6.out.r0 S6.out.r2).mono ?_
      rintro e w8 ⟨rfl, hb⟩
      have S7 := hide (S6.out.next hb)
      clear hb S6
      rcases Plain.cmp_range ys ks with hy | hy | hy
      · rw [below_lt hy]
        have HY := hide hy
        clear hy
        obtain ⟨f0, f1, g0, g1⟩ := S7.out.t
        go_wp2_with fail
        clear f0 f1 g0 g1
        refine (below_some _ _ _ _ _ _ _ ks ys _ H0.out H2.out S7.out.r0 S7.out.r2).mono ?_
        rintro e w9 ⟨rfl, hb⟩
        have S8 := hide (S7.out.next hb)
        clear hb S7
        rw [below_lt HY.out]
        go_wp2
        go_ret
        exact ⟨rfl, S8.out.b⟩
      · rw [below_eq hy]
        have HY := hide hy
        clear hy
        obtain ⟨f0, f1, g0, g1⟩ := S7.out.t
        go_wp2_with fail
        clear f0 f1 g0 g1
        refine (below_some _ _ _ _ _ _ _ ks ys _ H0.out H2.out S7.out.r0 S7.out.r2).mono ?_
        rintro e w9 ⟨rfl, hb⟩
        have S8 := hide (S7.out.next hb)
        clear hb S7
        rw [below_eq HY.out]
        go_wp2
        go_ret
        exact ⟨rfl, S8.out.b⟩
      · rw [below_gt hy]
        have HY := hide hy
        clear hy
        obtain ⟨f0, f1, g0, g1⟩ := S7.out.t
        go_wp2_with fail
        clear f0 f1 g0 g1
        refine (below_some _ _ _ _ _ _ _ ks ys _ H0.out H2.out S7.out.r0 S7.out.r2).mono ?_
        rintro e w9 ⟨rfl, hb⟩
        have S8 := hide (S7.out.next hb)
        clear hb S7
        rw [below_gt HY.out]
        go_wp2
        go_ret
        exact ⟨rfl, S8.out.b⟩
    · rw [hd]
      have HD := hide hd
      clear hd
      obtain ⟨f0, f1, g0, g1⟩ := S6.out.t
      go_wp2_with fail
      clear f0 f1 g0 g1
      refine (below_some _ _ _ _ _ _ _ ks ys _ H0.out H2.out S6.out.r0 S6.out.r2).mono ?_
      rintro e w8 ⟨rfl, hb⟩
      have S7 := hide (S6.out.next hb)
      clear hb S6
      rcases Plain.cmp_range ys ks with hy | hy | hy
      · rw [below_lt hy]
        have HY := hide hy
        clear hy
        obtain ⟨f0, f1, g0, g1⟩ := S7.out.t
        go_wp2_with fail
        clear f0 f1 g0 g1
        refine (below_some _ _ _ _ _ _ _ ks ys _ H0.out H2.out S7.out.r0 S7.out.r2).mono ?_
        rintro e w9 ⟨rfl, hb⟩
        have S8 := hide (S7.out.next hb)
        clear hb S7
        rw [below_lt HY.out]
        go_wp2
        go_ret
        exact ⟨rfl, S8.out.b⟩
      · rw [below_eq hy]
        have HY := hide hy
        clear hy
        obtain ⟨f0, f1, g0, g1⟩ := S7.out.t
        go_wp2_with fail
        clear f0 f1 g0 g1
        refine (below_some _ _ _ _ _ _ _ ks ys _ H0.out H2.out S7.out.r0 S7.out.r2).mono ?_
        rintro e w9 ⟨rfl, hb⟩
        have S8 := hide (S7.out.next hb)
        clear hb S7
        rw [below_eq HY.out]
        go_wp2
        go_ret
        exact ⟨rfl, S8.out.b⟩
      · rw [below_gt hy]
        have HY := hide hy
        clear hy
        obtain ⟨f0, f1, g0, g1⟩ := S7.out.t
        go_wp2_with fail
        clear f0 f1 g0 g1
        refine (below_some _ _ _ _ _ _ _ ks ys _ H0.out H2.out S7.out.r0 S7.out.r2).mono ?_
        rintro e w9 ⟨rfl, hb⟩
        have S8 := hide (S7.out.next hb)
        clear hb S7
        rw [below_gt HY.out]
        go_wp2
        go_ret
        exact ⟨rfl, S8.out.b⟩
    · rw [hd]
      go_wp2
      go_ret
      exact ⟨rfl, S6.out.b⟩
  · rw [below_eq hc, below_eq hc, hc]
    have HC := hide hc
    clear hc
    go_wp2_with fail
    refine (cmp_bel _ _ _ _ _ _ xs ys _ H1.out H2.out z1 z2 S5.out.r1 S5.out.r2).mono ?_
    rintro e w7 ⟨rfl, hb⟩
    have S6 := hide (S5.out.next hb)
    clear hb S5
    rcases Plain.cmp_range xs ys with hd | hd | hd
    · rw [hd]
      have HD := hide hd
      clear hd
      obtain ⟨f0, f1, g0, g1⟩ := S6.out.t
      go_wp2_with fail
      clear f0 f1 g0 g1
      refine (below_some _ _ _ _ _ _ _ ks ys _ H0.out H2.out S6.out.r0 S6.out.r2).mono ?_
      rintro e w8 ⟨rfl, hb⟩
      have S7 := hide (S6.out.next hb)
      clear hb S6
      rcases Plain.cmp_range ys ks with hy | hy | hy
      · exfalso
        have h1 := HC.out
        have h2 := HD.out
        have h3 := Plain.cmp_trans xs ys ks (by omega) (by omega)
        omega
      · rw [below_eq hy]
        have HY := hide hy
        clear hy
        obtain ⟨f0, f1, g0, g1⟩ := S7.out.t
        go_wp2_with fail
        clear f0 f1 g0 g1
        refine (below_some _ _ _ _ _ _ _ ks ys _ H0.out H2.out S7.out.r0 S7.out.r2).mono ?_
        rintro e w9 ⟨rfl, hb⟩
        have S8 := hide (S7.out.next hb)
        clear hb S7
        rw [below_eq HY.out]
        go_wp2
        go_ret
        exact ⟨rfl, S8.out.b⟩
      · rw [below_gt hy]
        have HY := hide hy
        clear hy
        obtain ⟨f0, f1, g0, g1⟩ := S7.out.t
        go_wp2_with fail
        clear f0 f1 g0 g1
        refine (below_some _ _ _ _ _ _ _ ks ys _ H0.out H2.out S7.out.r0 S7.out.r2).mono ?_
        rintro e w9 ⟨rfl, hb⟩
        have S8 := hide (S7.out.next hb)
        clear hb S7
        rw [below_gt HY.out]
        go_wp2
        go_ret
        exact ⟨rfl, S8.out.b⟩
    · rw [hd]
      have HD := hide hd
      clear hd
      obtain ⟨f0, f1, g0, g1⟩ := S6.out.t
      go_wp2_with fail
      clear f0 f1 g0 g1
      refine (below_some _ _ _ _ _ _ _ ks ys _ H0.out H2.out S6.out.r0 S6.out.r2).mono ?_
      rintro e w8 ⟨rfl, hb⟩
      have S7 := hide (S6.out.next hb)
      clear hb S6
      rcases Plain.cmp_range ys ks with hy | hy | hy
      · exfalso
        have h1 := HC.out
        have h2 := HD.out
        have h3 := Plain.cmp_trans xs ys ks (by omega) (by omega)
        omega
      · rw [below_eq hy]
        have HY := hide hy
        clear hy
        obtain ⟨f0, f1, g0, g1⟩ := S7.out.t
        go_wp2_with fail
        clear f0 f1 g0 g1
        refine (below_some _ _ _ _ _ _ _ ks ys _ H0.out H2.out S7.out.r0 S7.out.r2).mono ?_
        rintro e w9 ⟨rfl, hb⟩
        have S8 := hide (S7.out.next hb)
        clear hb S7
        rw [below_eq HY.out]
        go_wp2
        go_ret
        exact ⟨rfl, S8.out.b⟩
      · rw [below_gt hy]
        have HY := hide hy
        clear hy
        obtain ⟨f0, f1, g0, g1⟩ := S7.out.t
        go_wp2_with fail
        clear f0 f1 g0 g1
        refine (below_some _ _ _ _ _ _ _ ks ys _ H0.out H2.out S7.out.r0 S7.out.r2).mono ?_
        rintro e w9 ⟨rfl, hb⟩
        have S8 := hide (S7.out.next hb)
        clear hb S7
        rw [below_gt HY.out]
        go_wp2
        go_ret
        exact ⟨rfl, S8.out.b⟩
    · rw [hd]
      go_wp2
      go_ret
      exact ⟨rfl, S6.out.b⟩
  · rw [below_gt hc, below_gt hc, hc]
    have HC := hide hc
    clear hc
    go_wp2_with fail
    refine (cmp_bel _ _ _ _ _ _ xs ys _ H1.out H2.out z1 z2 S5.out.r1 S5.out.r2).mono ?_
    rintro e w7 ⟨rfl, hb⟩
    have S6 := hide (S5.out.next hb)
    clear hb S5
    rcases Plain.cmp_range xs ys with hd | hd | hd
    · rw [hd]
      have HD := hide hd
      clear hd
      obtain ⟨f0, f1, g0, g1⟩ := S6.out.t
      go_wp2_with fail
      clear f0 f1 g0 g1
      refine (below_some _ _ _ _ _ _ _ ks ys _ H0.out H2.out S6.out.r0 S6.out.r2).mono ?_
      rintro e w8 ⟨rfl, hb⟩
      have S7 := hide (S6.out.next hb)
      clear hb S6
      rcases Plain.cmp_range ys ks with hy | hy | hy
      · exfalso
        have h1 := HC.out
        have h2 := HD.out
        have h3 := Plain.cmp_trans xs ys ks (by omega) (by omega)
        omega
      · exfalso
        have h1 := HC.out
        have h2 := HD.out
        have h3 := Plain.cmp_trans_le xs ys ks (by omega) (by omega)
        omega
      · rw [below_gt hy]
        have HY := hide hy
        clear hy
        obtain ⟨f0, f1, g0, g1⟩ := S7.out.t
        go_wp2_with fail
        clear f0 f1 g0 g1
        refine (below_some _ _ _ _ _ _ _ ks ys _ H0.out H2.out S7.out.r0 S7.out.r2).mono ?_
        rintro e w9 ⟨rfl, hb⟩
        have S8 := hide (S7.out.next hb)
        clear hb S7
        rw [below_gt HY.out]
        go_wp2
        go_ret
        exact ⟨rfl, S8.out.b⟩
    · rw [hd]
      have HD := hide hd
      clear hd
      obtain ⟨f0, f1, g0, g1⟩ := S6.out.t
      go_wp2_with fail
      clear f0 f1 g0 g1
      refine (below_some _ _ _ _ _ _ _ ks ys _ H0.out H2.out S6.out.r0 S6.out.r2).mono ?_
      rintro e w8 ⟨rfl, hb⟩
      have S7 := hide (S6.out.next hb)
      clear hb S6
      rcases Plain.cmp_range ys ks with hy | hy | hy
      · exfalso
        have h1 := HC.out
        have h2 := HD.out
        have h3 := Plain.cmp_trans xs ys ks (by omega) (by omega)
        omega
      · exfalso
        have h1 := HC.out
        have h2 := HD.out
        have h3 := Plain.cmp_trans_le xs ys ks (by omega) (by omega)
        omega
      · rw [below_gt hy]
        have HY := hide hy
        clear hy
        obtain ⟨f0, f1, g0, g1⟩ := S7.out.t
        go_wp2_with fail
        clear f0 f1 g0 g1
        refine (below_some _ _ _ _ _ _ _ ks ys _ H0.out H2.out S7.out.r0 S7.out.r2).mono ?_
        rintro e w9 ⟨rfl, hb⟩
        have S8 := hide (S7.out.next hb)
        clear hb S7
        rw [below_gt HY.out]
        go_wp2
        go_ret
        exact ⟨rfl, S8.out.b⟩
    · rw [hd]
      go_wp2
      go_ret
      exact ⟨rfl, S6.out.b⟩

set_option maxHeartbeats 1000000 in
theorem walk (a0 : Option Addr) (len0 cap0 : Nat) (z0 : List Int) (a1 : Option Addr) (len1 cap1 : Nat) (z1 : List Int) (a2 : Option Addr) (len2 cap2 : Nat) (z2 : List Int) (w : World) (w0 : IsRow .u8 w a0 len0 cap0 z0) (w1 : IsRow .u8 w a1 len1 cap1 z1) (w2 : IsRow .u8 w a2 len2 cap2 z2) :
    Calls Try.prog 4 #[.slice a0 len0 cap0, .slice a1 len1 cap1, .slice a2 len2 cap2] w fun e w' => e = .returned (.bool true) ∧ Below w.heap.size w w' := by
  have m0 := len_le w0
  have m1 := len_le w1
  have m2 := len_le w2
  obtain ⟨ks, h0, r0⟩ := row_of w0
  obtain ⟨xs, h1, r1⟩ := row_of w1
  obtain ⟨ys, h2, r2⟩ := row_of w2
  clear w0 w1 w2
  have hq := nilSlice
  by_cases hs : (len0 : Int) + (len1 : Int) + (len2 : Int) ≤ 1048576
  · by_cases s : (len0 : Int) ≤ 262144 ∧ (len1 : Int) ≤ 262144 ∧ (len2 : Int) ≤ 262144
    · obtain ⟨s0, s1, s2⟩ := s
      cases a0 with
      | some x0 => exact walk_some x0 a1 a2 len0 cap0 len1 cap1 len2 cap2 ks xs ys w h0 h1 h2 r0 r1 r2 hs s0 s1 s2
      | none =>
        clear r0 r1 r2 h0 h1 h2
        go_enter Try.func4, Try.ntmps4
        go_wp2_with fail
        refine (zzb_yes _ _ _ _ _ _ _ _ _ _ hs).mono ?_
        rintro e w1 ⟨rfl, rfl⟩
        go_wp2_with fail
        refine (below_nil _ _ _ _ _).mono ?_
        rintro e w3 ⟨rfl, hb3⟩
        have B3 := hide hb3
        clear hb3
        go_wp2_with fail
        refine (below_nil _ _ _ _ _).mono ?_
        rintro e w4 ⟨rfl, hb4⟩
        have B4 := hide (B3.out.trans (hb4.mono B3.out.size))
        clear hb4
        go_wp2
        go_ret
        exact ⟨rfl, B4.out⟩
    · clear r0 r1 r2 h0 h1 h2
      by_cases s0 : (262144 : Int) < (len0 : Int)
      · go_enter Try.func4, Try.ntmps4
        go_wp2_with fail
        refine (zzb_yes _ _ _ _ _ _ _ _ _ _ hs).mono ?_
        rintro e w1 ⟨rfl, rfl⟩
        go_wp2
        go_ret
        exact ⟨rfl, Below.refl _ _⟩
      · by_cases s1 : (262144 : Int) < (len1 : Int)
        · go_enter Try.func4, Try.ntmps4
          go_wp2_with fail
          refine (zzb_yes _ _ _ _ _ _ _ _ _ _ hs).mono ?_
          rintro e w1 ⟨rfl, rfl⟩
          go_wp2
          go_ret
          exact ⟨rfl, Below.refl _ _⟩
        · have s2 : (262144 : Int) < (len2 : Int) := by omega
          clear s
          go_enter Try.func4, Try.ntmps4
          go_wp2_with fail
          refine (zzb_yes _ _ _ _ _ _ _ _ _ _ hs).mono ?_
          rintro e w1 ⟨rfl, rfl⟩
          go_wp2
          go_ret
          exact ⟨rfl, Below.refl _ _⟩
  · clear r0 r1 r2 h0 h1 h2
    go_enter Try.func4, Try.ntmps4
    go_wp2_with fail
    refine (zzb_no _ _ _ _ _ _ _ _ _ _ (by omega) m0 m1 m2).mono ?_
    rintro e w1 ⟨rfl, rfl⟩
    go_wp2
    go_ret
    exact ⟨rfl, Below.refl _ _⟩

/-! ### THE ROW's STEP: WRITTEN OUT: LEAVE IT -/
set_option maxRecDepth 100000 in
theorem lifted (os : Os) (started : os.Started) (H : Type) (enc : TypeId × Value → H) :
    ReturnsInHanded {} Try.checked os 4 .any (Rows.fnBelowCutsKeyOrderAtBoundSpec.pre6 enc Try.prog Try.f4 Rows.fnBelowCutsKeyOrderAtBoundRow.domain false) (Rows.fnBelowCutsKeyOrderAtBoundSpec.post enc Try.prog Try.f4 false true false false) := by
  refine returnsInHanded_of_change (C := Try.checked) own started (by kernel_rfl) Try.func4
    (ChangeSpec.witness6 (enc := enc) (C := Try.checked) false ⟨#[], #[.slice none 0 0, .slice none 0 0, .slice none 0 0], []⟩ 8 (by kernel_rfl) (by kernel_rfl) (by kernel_rfl) (by kernel_rfl)) ?_
  intro W base args ds gs before hval0 hW hcnd _
  have hval : ∀ (j : Nat) t v, Try.f4.params[j]? = some t → args[j]? = some v → Value.okWide Try.prog W .any base t v := hval0
  have hW' := hW
  obtain ⟨p, q, hA0, hV, rfl, hfz, hnd⟩ := hW
  have hA : DataW.TrodAll enc Try.prog W 0 (fun _ => true) true Try.f4.params.toList args.toList ds p := hA0
  rw [Try.params4] at hA hval
  obtain ⟨v0, vs0, d0, ds0, p0, q0, hargs, rfl, rfl, h0, r0⟩ := trodAll_cons hA
  obtain ⟨v1, vs1, d1, ds1, p1, q1, rfl, rfl, rfl, h1, r1⟩ := trodAll_cons r0
  obtain ⟨v2, vs2, d2, ds2, p2, q2, rfl, rfl, rfl, h2, r2⟩ := trodAll_cons r1
  obtain ⟨rfl, rfl, rfl⟩ := trodAll_nil r2
  obtain rfl : args = #[v0, v1, v2] := by cases args; simp_all
  obtain ⟨rfl, rfl⟩ := trodVars_none hV
  obtain ⟨a0, len0, cap0, rfl⟩ := okWide_slice Try.underlying22 (hval 0 22 v0 rfl rfl)
  have k0 := h0
  have lt0 : ∀ x ∈ p0, x.block < W.heap.size := by obtain ⟨m, hm⟩ := k0; exact DataW.trod_lt m _ _ _ hm
  obtain ⟨z0, w0⟩ : ∃ zs, IsRow .u8 W a0 len0 cap0 zs := by
    obtain ⟨fuel, hf⟩ := h0
    rcases open_ints Try.underlying22 Try.underlying5 (by kernel_rfl) hf with ⟨hcs, _⟩ | ⟨x, l, c, zs, hcs, _, hl, hm, hz, _, hcell, hwz⟩
    · simp [Value.cells] at hcs
      obtain ⟨rfl, rfl, rfl⟩ := hcs
      exact ⟨[], .inl ⟨rfl, rfl, rfl, rfl⟩⟩
    · simp [Value.cells] at hcs
      obtain ⟨rfl, rfl, rfl⟩ := hcs
      exact ⟨zs, .inr ⟨_, rfl, hl, hm, by simpa using hz, hcell, hwz⟩⟩
  obtain ⟨a1, len1, cap1, rfl⟩ := okWide_slice Try.underlying22 (hval 1 22 v1 rfl rfl)
  have k1 := h1
  have lt1 : ∀ x ∈ p1, x.block < W.heap.size := by obtain ⟨m, hm⟩ := k1; exact DataW.trod_lt m _ _ _ hm
  obtain ⟨z1, w1⟩ : ∃ zs, IsRow .u8 W a1 len1 cap1 zs := by
    obtain ⟨fuel, hf⟩ := h1
    rcases open_ints Try.underlying22 Try.underlying5 (by kernel_rfl) hf with ⟨hcs, _⟩ | ⟨x, l, c, zs, hcs, _, hl, hm, hz, _, hcell, hwz⟩
    · simp [Value.cells] at hcs
      obtain ⟨rfl, rfl, rfl⟩ := hcs
      exact ⟨[], .inl ⟨rfl, rfl, rfl, rfl⟩⟩
    · simp [Value.cells] at hcs
      obtain ⟨rfl, rfl, rfl⟩ := hcs
      exact ⟨zs, .inr ⟨_, rfl, hl, hm, by simpa using hz, hcell, hwz⟩⟩
  obtain ⟨a2, len2, cap2, rfl⟩ := okWide_slice Try.underlying22 (hval 2 22 v2 rfl rfl)
  have k2 := h2
  have lt2 : ∀ x ∈ p2, x.block < W.heap.size := by obtain ⟨m, hm⟩ := k2; exact DataW.trod_lt m _ _ _ hm
  obtain ⟨z2, w2⟩ : ∃ zs, IsRow .u8 W a2 len2 cap2 zs := by
    obtain ⟨fuel, hf⟩ := h2
    rcases open_ints Try.underlying22 Try.underlying5 (by kernel_rfl) hf with ⟨hcs, _⟩ | ⟨x, l, c, zs, hcs, _, hl, hm, hz, _, hcell, hwz⟩
    · simp [Value.cells] at hcs
      obtain ⟨rfl, rfl, rfl⟩ := hcs
      exact ⟨[], .inl ⟨rfl, rfl, rfl, rfl⟩⟩
    · simp [Value.cells] at hcs
      obtain ⟨rfl, rfl, rfl⟩ := hcs
      exact ⟨zs, .inr ⟨_, rfl, hl, hm, by simpa using hz, hcell, hwz⟩⟩
  clear hA0 hval0
  refine (walk a0 len0 cap0 z0 a1 len1 cap1 z1 a2 len2 cap2 z2 W w0 w1 w2).mono fun e W' ⟨he, bel⟩ => ?_
  subst he
  exact ⟨_, rfl, _, _, _, [], _, [], hW', trodAll_mk1 (shut_bool Try.underlying4 _), (trodAll_cons_mk (Below.trod laidOut (by kernel_rfl) (of_decide_eq_true (by kernel_rfl)) k0 bel lt0) (trodAll_cons_mk (Below.trod laidOut (by kernel_rfl) (of_decide_eq_true (by kernel_rfl)) k1 bel lt1) (trodAll_cons_mk (Below.trod laidOut (by kernel_rfl) (of_decide_eq_true (by kernel_rfl)) k2 bel lt2) trodAll_mk0))), rfl, bel.frame _, fun h => by cases h⟩

theorem over : Rows.fnBelowCutsKeyOrderAtBoundRow.holds Try.pinned (OpenSpec.ofChange Rows.fnBelowCutsKeyOrderAtBoundSpec) :=
  OpenClaim.holds_of_wide 4 Try.f4 rfl rfl rfl rfl rfl rfl rfl ⟨rfl, rfl, rfl, rfl, rfl⟩ rfl rfl rfl rfl rfl (by kernel_rfl) Try.func4 (by kernel_rfl)
    (of_decide_eq_true (by kernel_rfl)) (by unfold Func.isWrapper; first | (rw [if_pos (by decide +kernel)]; kernel_rfl) | (rw [if_neg (by decide +kernel)]; exact ⟨rfl, rfl⟩))
    (fun os started H enc _ => lifted os started H enc)

/-- ████ THE STATEMENT ████ -/
theorem proved : Rows.FnBelowCutsKeyOrderAtBoundSaid := over
end Go.Proofs.Qxb6628862a.fnBelowCutsKeyOrderAtBound
