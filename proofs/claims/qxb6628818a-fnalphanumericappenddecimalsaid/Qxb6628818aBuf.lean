/- A local array of bytes that is filled from its end: what the two digit writers do. -/
import Derived.Test.Qxb6628818aPlain
import Derived.WalkKit
namespace Go.Proofs.Qxb6628818a
open Go.RowKit
open Plain (aln alnB)

/-- a byte that is an ASCII digit or an upper-case letter -/
def good (z : Int) : Prop := (48 ≤ z ∧ z ≤ 57) ∨ (65 ≤ z ∧ z ≤ 90)

/-- block B holds the N bytes zs, not frozen; from place j on each is good -/
structure Buf (T : TypeId) (N B j : Nat) (zs : List Int) (w : World) : Prop where
  len : zs.length = N
  heap : w.heap[B]? = some (.cells (zs.map (Value.int .u8)).toArray T (0, 0))
  good : ∀ i, j ≤ i → i < N → good (zs.getD i 0)

theorem Buf.cell {T : TypeId} {N B j : Nat} {zs : List Int} {w : World} (h : Buf T N B j zs w) {i : Nat} (hi : i < N) : w.cell? ⟨B, i, none⟩ = some (.int .u8 (zs.getD i 0)) := by
  rw [cell_of_row w B i _ T (0, 0) h.heap]
  have hl := h.len
  simp [List.getD, List.getElem?_eq_getElem (show i < zs.length by omega)]

theorem Buf.frozen {T : TypeId} {N B j : Nat} {zs : List Int} {w : World} (h : Buf T N B j zs w) (i : Nat) : w.frozen? ⟨B, i, none⟩ = false :=
  frozen_of_row w B i _ T h.heap

theorem Buf.put {T : TypeId} {N B j : Nat} {zs : List Int} {w : World} (h : Buf T N B (j + 1) zs w) (hj : j < N) {d : Int} (hd : Qxb6628818a.good d) :
    Buf T N B j (zs.set j d) (w.setCell ⟨B, j, none⟩ (.int .u8 d)) := by
  have hl := h.len
  refine ⟨by simpa using hl, ?_, ?_⟩
  · rw [heap_setCell_same w B j _ T _ h.heap]
    congr 2
    apply Array.ext'
    simp [List.map_set]
  · intro i h1 h2
    by_cases e : i = j
    · subst e
      simpa [List.getD, List.getElem?_set, hl, hj] using hd
    · have := h.good i (by omega) h2
      simpa [List.getD, List.getElem?_set, show ¬ j = i by omega] using this

theorem getD_drop {zs : List Int} {k i : Nat} : (zs.drop k).getD i 0 = zs.getD (k + i) 0 := by
  simp [List.getD]

theorem good_aln {z : Int} (h : good z) : aln (UInt8.ofNat z.toNat) = true := by
  apply Plain.aln_of
  unfold good at h
  have : z.toNat < 256 := by omega
  have e : (UInt8.ofNat z.toNat).toNat = z.toNat := by simp; omega
  rw [e]
  omega

/-- the tail from j on, as a string: letters and digits, not empty -/
theorem Buf.str {T : TypeId} {N B j : Nat} {zs : List Int} {w : World} (h : Buf T N B j zs w) (hj : j < N) :
    (strOfNums (zs.drop j)).size = N - j ∧ alnB (strOfNums (zs.drop j)).data.toList = true := by
  have hl := h.len
  refine ⟨by rw [strOfNums_size]; simp [hl], ?_⟩
  unfold alnB
  rw [strOfNums_data]
  rw [Bool.and_eq_true]
  constructor
  · rw [List.all_eq_true]
    intro c hc
    obtain ⟨z, hz, rfl⟩ := List.mem_map.1 hc
    obtain ⟨i, hi, rfl⟩ := List.getElem_of_mem hz
    apply good_aln
    have := h.good (j + i) (by omega) (by simp at hi; omega)
    rw [← getD_drop] at this
    simpa [List.getD, List.getElem?_eq_getElem hi] using this
  · simp [hl]; omega

theorem step10 {x j : Nat} (h : x < 10 ^ (j + 1)) : x / 10 < 10 ^ j ∧ (x / 10 ≠ 0 → 1 ≤ j) := by
  have h1 : x / 10 < 10 ^ j := Nat.div_lt_of_lt_mul (by rw [Nat.pow_succ] at h; omega)
  refine ⟨h1, fun hx => ?_⟩
  rcases Nat.eq_zero_or_pos j with e | e
  · subst e; simp at h1; omega
  · exact e

theorem step36 {x j : Nat} (h : x < 36 ^ (j + 1)) : x / 36 < 36 ^ j ∧ (x / 36 ≠ 0 → 1 ≤ j) := by
  have h1 : x / 36 < 36 ^ j := Nat.div_lt_of_lt_mul (by rw [Nat.pow_succ] at h; omega)
  refine ⟨h1, fun hx => ?_⟩
  rcases Nat.eq_zero_or_pos j with e | e
  · subst e; simp at h1; omega
  · exact e

end Go.Proofs.Qxb6628818a
