/- zzSameBytes (function 22): true where the two slices read alike. -/
import Derived.Test.Qxb6628903aMem
import Derived.Deep.QuietTactic
import Derived.BigQuiet
namespace Go.Proofs.Qxb6628903a
open Go.RowKit

set_option maxHeartbeats 1000000 in
theorem sameBytes_full (b1 o1 b2 o2 n c1 c2 : Nat) (bs : List Int) (w : World) (hl : bs.length = n) (hn : n ≤ 9223372036854775807)
    (hx : ∀ i, i < n → w.cell? ⟨b1, o1 + i, none⟩ = some (.int .u8 (bs.getD i 0))) (hy : ∀ i, i < n → w.cell? ⟨b2, o2 + i, none⟩ = some (.int .u8 (bs.getD i 0))) :
    Calls Try.prog 22 #[.slice (some ⟨b1, o1, none⟩) n c1, .slice (some ⟨b2, o2, none⟩) n c2] w fun e w' => e = .returned (.bool true) ∧ ∃ k, w' = w.drewN k := by
  have hq := nil35
  have HL := hide hl
  have HX := hide hx
  have HY := hide hy
  clear hl hx hy
  go_enter Try.func22, Try.ntmps22
  go_wp2
  go_loopw [5] (fun i wr => ∃ k m : Nat, k ≤ n ∧ i = .int .i64 k ∧ wr = w.drewN m) (fun i _ => n - (intOf i).toNat)
  case atStart => exact ⟨0, 0, by omega, rfl, rfl⟩
  case round =>
    obtain ⟨k, m, hk, rfl, rfl⟩ := hrel
    by_cases hlt : k < n
    · have i1 : (k : Int) < (n : Int) := by omega
      have c1 := HX.out k hlt
      have c2 := HY.out k hlt
      go_wp2
      go_quiet (fail)
      go_wp2
      go_roundw
      case rel => exact ⟨k + 1, _, by omega, by go_num, by first | rfl | rw [World.drewN_drewN]⟩
      case measure => simp [intOf]; omega
    · go_wp2
      go_ret
      exact ⟨rfl, m, rfl⟩

set_option maxHeartbeats 400000 in
theorem sameBytes_empty (a1 a2 : Option Addr) (c1 c2 : Nat) (w : World) (h : a1.isNone = a2.isNone) :
    Calls Try.prog 22 #[.slice a1 0 c1, .slice a2 0 c2] w fun e w' => e = .returned (.bool true) ∧ ∃ k, w' = w.drewN k := by
  have hq := nil35
  cases a1 <;> cases a2
  · go_enter Try.func22, Try.ntmps22
    go_wp2
    refine wp_loop_rounds 1 ?_
    rw [rounds_succ]
    go_wp2
    go_ret
    exact ⟨rfl, 0, rfl⟩
  · simp at h
  · simp at h
  · clear h
    go_enter Try.func22, Try.ntmps22
    go_wp2
    refine wp_loop_rounds 1 ?_
    rw [rounds_succ]
    go_wp2
    go_ret
    exact ⟨rfl, 0, rfl⟩

theorem sameBytes (a1 a2 : Option Addr) (n c1 c2 : Nat) (nil : Bool) (bs : List Int) (w : World) (hn : n ≤ 9223372036854775807) (h1 : Bytes w a1 n nil bs) (h2 : Bytes w a2 n nil bs) :
    Calls Try.prog 22 #[.slice a1 n c1, .slice a2 n c2] w fun e w' => e = .returned (.bool true) ∧ ∃ k, w' = w.drewN k := by
  by_cases h : bs = []
  · subst h
    obtain ⟨e1, e2, _⟩ := h1
    simp at e2
    subst e2
    exact sameBytes_empty a1 a2 c1 c2 w (by rw [e1, h2.1])
  · obtain ⟨b1, o1, rfl, x1⟩ := h1.2.2 h
    obtain ⟨b2, o2, rfl, x2⟩ := h2.2.2 h
    have hl := h1.2.1
    exact sameBytes_full b1 o1 b2 o2 n c1 c2 bs w hl hn (fun i hi => x1 i (by omega)) (fun i hi => x2 i (by omega))

end Go.Proofs.Qxb6628903a
