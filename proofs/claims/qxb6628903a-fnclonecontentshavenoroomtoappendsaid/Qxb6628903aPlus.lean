/- zzIsPlus (function 11): true where the first slice is the second and one byte more. -/
import Derived.Test.Qxb6628903aMem
import Derived.Deep.QuietTactic
import Derived.BigQuiet
namespace Go.Proofs.Qxb6628903a
open Go.RowKit

set_option maxHeartbeats 1000000 in
theorem isPlus_full (b1 o1 b2 o2 n N c1 c2 : Nat) (bs : List Int) (z : Int) (w : World) (hN : N = n + 1) (hn : n ≤ 1048576)
    (hx : ∀ i, i < n → w.cell? ⟨b1, o1 + i, none⟩ = some (.int .u8 (bs.getD i 0))) (hz : w.cell? ⟨b1, o1 + n, none⟩ = some (.int .u8 z)) (hy : ∀ i, i < n → w.cell? ⟨b2, o2 + i, none⟩ = some (.int .u8 (bs.getD i 0))) :
    Calls Try.prog 11 #[.slice (some ⟨b1, o1, none⟩) N c1, .slice (some ⟨b2, o2, none⟩) n c2, .int .u8 z] w fun e w' => e = .returned (.bool true) ∧ Below w.heap.size w w' := by
  have HX := hide hx
  have HY := hide hy
  have i0 : (n : Int) + 1 = (N : Int) := by omega
  have i2 : (n : Int) < (N : Int) := by omega
  have i3 : (N : Int) ≤ 1048577 := by omega
  have HN := hide hN
  clear hx hy hN
  go_enter Try.func11, Try.ntmps11
  go_wp2
  go_loopw [7] (fun i wr => ∃ k m : Nat, k ≤ n ∧ i = .int .i64 k ∧ wr = w.drewN m) (fun i _ => n - (intOf i).toNat)
  case atStart => exact ⟨0, 0, by omega, rfl, rfl⟩
  case round =>
    obtain ⟨k, m, hk, rfl, rfl⟩ := hrel
    by_cases hlt : k < n
    · have i1 : (k : Int) < (n : Int) := by omega
      have i4 : (k : Int) < (N : Int) := by omega
      have c1 := HX.out k hlt
      have c2 := HY.out k hlt
      go_wp2
      go_quiet (fail)
      go_wp2
      go_roundw
      case rel => exact ⟨k + 1, _, by omega, by go_num, by first | rfl | rw [World.drewN_drewN]⟩
      case measure => simp [intOf]; omega
    · go_wp2
      go_ret
      exact ⟨rfl, below_draw m⟩

set_option maxHeartbeats 400000 in
theorem isPlus_empty (b1 o1 : Nat) (a2 : Option Addr) (c1 c2 : Nat) (z : Int) (w : World) (hz : w.cell? ⟨b1, o1, none⟩ = some (.int .u8 z)) :
    Calls Try.prog 11 #[.slice (some ⟨b1, o1, none⟩) 1 c1, .slice a2 0 c2, .int .u8 z] w fun e w' => e = .returned (.bool true) ∧ Below w.heap.size w w' := by
  go_enter Try.func11, Try.ntmps11
  go_wp2
  refine wp_loop_rounds 1 ?_
  rw [rounds_succ]
  go_wp2
  go_ret
  exact ⟨rfl, Below.refl _ _⟩

theorem isPlus (a1 a2 : Option Addr) (n N c1 c2 : Nat) (nil nil' : Bool) (bs : List Int) (z : Int) (w : World) (hn : n ≤ 1048576) (h1 : Bytes w a1 N nil' (bs ++ [z])) (h2 : Bytes w a2 n nil bs) :
    Calls Try.prog 11 #[.slice a1 N c1, .slice a2 n c2, .int .u8 z] w fun e w' => e = .returned (.bool true) ∧ Below w.heap.size w w' := by
  obtain ⟨b1, o1, rfl, x1⟩ := h1.2.2 (by simp)
  have hl := h1.2.1
  have hl2 := h2.2.1
  simp only [List.length_append, List.length_cons, List.length_nil] at hl x1
  by_cases h : bs = []
  · subst h
    simp at hl hl2
    subst hl
    subst hl2
    have := x1 0 (by simp)
    exact isPlus_empty b1 o1 a2 c1 c2 z w (by simpa using this)
  · obtain ⟨b2, o2, rfl, x2⟩ := h2.2.2 h
    refine isPlus_full b1 o1 b2 o2 n N c1 c2 bs z w (by omega) hn (fun i hi => ?_) ?_ (fun i hi => x2 i (by omega))
    · rw [x1 i (by omega)]
      simp [List.getD, List.getElem?_append_left (show i < bs.length by omega)]
    · rw [x1 n (by omega)]
      simp [List.getD, ← hl2]

end Go.Proofs.Qxb6628903a
