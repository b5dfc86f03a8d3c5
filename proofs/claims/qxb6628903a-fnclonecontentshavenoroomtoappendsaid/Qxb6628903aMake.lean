/- make([]Element, n): a block of zero elements. -/
import Derived.Test.Qxb6628903aElem
import Derived.Test.Qxb6628903aList
namespace Go.Proofs.Qxb6628903a
open Go.RowKit

/-- n zero elements, cell by cell -/
def z37 (n : Nat) : List Value := (madeCells zero37.toArray (n * 5)).toList

theorem z37_len (n : Nat) : (z37 n).length = n * 5 := by
  unfold z37
  rw [Array.length_toList, size_madeCells]

theorem z37_mem {n : Nat} {v : Value} (h : v ∈ z37 n) : v ∈ zero37 := by
  unfold z37 madeCells at h
  simp at h
  obtain ⟨i, hi, rfl⟩ := h
  have hlt : i % 5 < 5 := Nat.mod_lt _ (by omega)
  match hm : i % 5, hlt with
  | 0, _ => simp
  | 1, _ => simp
  | 2, _ => simp
  | 3, _ => simp
  | 4, _ => simp

theorem z37_noInt (n : Nat) : NoInt (z37 n) := fun z hz => by
  have := z37_mem hz
  simp at this

theorem info37z : (Try.prog.info? 37).map (fun i => (i.zero, i.size, i.bytes)) = some (some (.agg zero37.toArray), 5, 80) := by kernel_rfl

theorem mk31 (n : Nat) (hn : n ≤ 1048576) (w : World) :
    (Instr.makeSlice 31 (.int .i64 (n : Int)) (.int .i64 (n : Int))).run Try.prog w = .ok (.slice (some ⟨w.heap.size, 0, none⟩) n n) (w.alloc (.cells (z37 n).toArray 37)) := by
  obtain ⟨i, hi, hzz⟩ := Option.map_eq_some_iff.1 info37z
  simp only [Prod.mk.injEq] at hzz
  obtain ⟨hz, hs, hb⟩ := hzz
  have hr := run_make (P := Try.prog) w 31 37 i (.agg zero37.toArray) Try.underlying31 hi hz .i64 .i64 n n (by omega) (Int.le_refl _) (by rw [hb]; omega) (by omega)
  simp only [Int.toNat_natCast, hs] at hr
  rw [hr]
  simp [z37, Value.cells]

end Go.Proofs.Qxb6628903a
