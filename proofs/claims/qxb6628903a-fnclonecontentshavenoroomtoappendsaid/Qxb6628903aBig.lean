/- zzElemTooBig (function 12): the sum goes on; false only while it stays within 1 MiB. -/
import Derived.Test.Qxb6628903aCopy
namespace Go.Proofs.Qxb6628903a
open Go.RowKit

/-- the sum lies in block T, which the caller has made; nothing below T has turned -/
structure Tot (w0 : World) (T : Nat) (t : Int) (w : World) : Prop where
  v : VB 3 T [.int .i64 t] w
  b : Below T w0 w

theorem Tot.set {w0 : World} {T : Nat} {t : Int} {w : World} (h : Tot w0 T t w) (u : Int) : Tot w0 T u (w.setCell ⟨T, 0, none⟩ (.int .i64 u)) :=
  ⟨h.v.put 0 _, h.b.setCell (p := ⟨T, 0, none⟩) (Nat.le_refl _) _⟩
theorem Tot.alloc {w0 : World} {T : Nat} {t : Int} {w : World} (h : Tot w0 T t w) (o : Obj) : Tot w0 T t (w.alloc o) :=
  ⟨h.v.on (Below.alloc (Below.refl _ _) (Nat.le_refl _) _), h.b.alloc (Nat.le_of_lt h.v.lt) _⟩
theorem Tot.drew {w0 : World} {T : Nat} {t : Int} {w : World} (h : Tot w0 T t w) : Tot w0 T t w.drew := ⟨⟨h.v.heap⟩, h.b.drew⟩

/-- what comes back: the sum has gone on; false only within 1 MiB, and then nothing was left out -/
def BigPost (w0 : World) (T : Nat) (t d : Int) (e : Ending) (w' : World) : Prop :=
  ∃ b t', e = .returned (.bool b) ∧ Tot w0 T t' w' ∧ 0 ≤ t' ∧ (b = false → t' ≤ 1048576 ∧ t' = t + d)

set_option maxHeartbeats 4000000 in
theorem elemBig (T : Nat) (t : Int) (s0 s1 s2 : ByteArray) (a : Option Addr) (n c : Nat) (p : Option Addr) (w0 w : World) (hv : Tot w0 T t w) (h0 : 0 ≤ t) (ht : t ≤ 1048576)
    (z0 : s0.size ≤ 140737488351232) (z1 : s1.size ≤ 140737488351232) (z2 : s2.size ≤ 140737488351232) (z3 : n ≤ 140737488351232) :
    Calls Try.prog 12 #[.pointer (some ⟨T, 0, none⟩), .agg #[.string s0, .string s1, .string s2, .slice a n c, .pointer p]] w fun e w' =>
      BigPost w0 T t (80 + (s0.size : Int) + (s1.size : Int) + (s2.size : Int) + (n : Int)) e w' := by
  have hT := hv.v.lt
  have cT := hv.v.cell (i := 0) rfl
  have fT := hv.v.frozen 0
  have HV := hide hv
  have q1 : ∀ a, (w.setCell ⟨T, 0, none⟩ (.int .i64 a)).cell? ⟨T, 0, none⟩ = some (.int .i64 a) := fun a => (hv.set a).v.cell rfl
  have q2 : ∀ a b, ((w.setCell ⟨T, 0, none⟩ (.int .i64 a)).setCell ⟨T, 0, none⟩ (.int .i64 b)).cell? ⟨T, 0, none⟩ = some (.int .i64 b) := fun a b => ((hv.set a).set b).v.cell rfl
  have q3 : ∀ a b c, (((w.setCell ⟨T, 0, none⟩ (.int .i64 a)).setCell ⟨T, 0, none⟩ (.int .i64 b)).setCell ⟨T, 0, none⟩ (.int .i64 c)).cell? ⟨T, 0, none⟩ = some (.int .i64 c) := fun a b c => (((hv.set a).set b).set c).v.cell rfl
  have q4 : ∀ a b c d, ((((w.setCell ⟨T, 0, none⟩ (.int .i64 a)).setCell ⟨T, 0, none⟩ (.int .i64 b)).setCell ⟨T, 0, none⟩ (.int .i64 c)).setCell ⟨T, 0, none⟩ (.int .i64 d)).cell? ⟨T, 0, none⟩ = some (.int .i64 d) := fun a b c d => ((((hv.set a).set b).set c).set d).v.cell rfl
  have q5 : ∀ a b c d e, (((((w.setCell ⟨T, 0, none⟩ (.int .i64 a)).setCell ⟨T, 0, none⟩ (.int .i64 b)).setCell ⟨T, 0, none⟩ (.int .i64 c)).setCell ⟨T, 0, none⟩ (.int .i64 d)).setCell ⟨T, 0, none⟩ (.int .i64 e)).cell? ⟨T, 0, none⟩ = some (.int .i64 e) := fun a b c d e => (((((hv.set a).set b).set c).set d).set e).v.cell rfl
  clear hv
  by_cases l0 : t + 80 ≤ 1048576
  · by_cases l1 : t + 80 + (s0.size : Int) ≤ 1048576
    · by_cases l2 : t + 80 + (s0.size : Int) + (s1.size : Int) ≤ 1048576
      · by_cases l3 : t + 80 + (s0.size : Int) + (s1.size : Int) + (s2.size : Int) ≤ 1048576
        · go_enter Try.func12, Try.ntmps12
          go_wp2
          go_region
          go_wp2
          go_region
          go_wp2
          go_region
          go_wp2
          go_region
          go_wp2
          go_ret
          exact ⟨_, t + 80 + (s0.size : Int) + (s1.size : Int) + (s2.size : Int) + (n : Int), rfl, (((((HV.out.set _).set _).set _).set _).set _).alloc _ |>.drew.drew.drew.drew, by omega, fun h => by simp at h; exact ⟨h, by omega⟩⟩
        · go_enter Try.func12, Try.ntmps12
          go_wp2
          go_region
          go_wp2
          go_region
          go_wp2
          go_region
          go_wp2
          go_ret
          exact ⟨_, t + 80 + (s0.size : Int) + (s1.size : Int) + (s2.size : Int), rfl, ((((HV.out.set _).set _).set _).set _).alloc _ |>.drew.drew.drew, by omega, fun h => by simp at h⟩
      · go_enter Try.func12, Try.ntmps12
        go_wp2
        go_region
        go_wp2
        go_region
        go_wp2
        go_ret
        exact ⟨_, t + 80 + (s0.size : Int) + (s1.size : Int), rfl, (((HV.out.set _).set _).set _).alloc _ |>.drew.drew, by omega, fun h => by simp at h⟩
    · go_enter Try.func12, Try.ntmps12
      go_wp2
      go_region
      go_wp2
      go_ret
      exact ⟨_, t + 80 + (s0.size : Int), rfl, ((HV.out.set _).set _).alloc _ |>.drew, by omega, fun h => by simp at h⟩
  · go_enter Try.func12, Try.ntmps12
    go_wp2
    go_ret
    exact ⟨_, t + 80, rfl, (HV.out.set _).alloc _, by omega, fun h => by simp at h⟩

end Go.Proofs.Qxb6628903a
