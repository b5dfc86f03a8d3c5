/- The plain part of seat b6628818a: ASCII letters and digits, lists of bytes. No Go in sight. -/
import Derived.Laws.BytesArg
namespace Go.Proofs.Qxb6628818a.Plain

def aln (c : UInt8) : Bool := (decide (48 ≤ c.toNat) && decide (c.toNat ≤ 57)) || (decide (97 ≤ c.toNat) && decide (c.toNat ≤ 122)) || (decide (65 ≤ c.toNat) && decide (c.toNat ≤ 90))

def alnB (l : List UInt8) : Bool := l.all aln && !l.isEmpty

theorem aln_of {c : UInt8} (h : (48 ≤ c.toNat ∧ c.toNat ≤ 57) ∨ (97 ≤ c.toNat ∧ c.toNat ≤ 122) ∨ (65 ≤ c.toNat ∧ c.toNat ≤ 90)) : aln c = true := by
  unfold aln
  simp
  omega

theorem aln_iff {c : UInt8} : aln c = true ↔ (48 ≤ c.toNat ∧ c.toNat ≤ 57) ∨ (97 ≤ c.toNat ∧ c.toNat ≤ 122) ∨ (65 ≤ c.toNat ∧ c.toNat ≤ 90) := by
  unfold aln
  simp
  omega

theorem take_snoc (s : ByteArray) (k : Nat) (h : k < s.size) : s.data.toList.take (k + 1) = s.data.toList.take k ++ [s[k]] := by
  rw [List.take_succ_eq_append_getElem (by simpa using h)]; rfl

theorem all_snoc (s : ByteArray) (k : Nat) (h : k < s.size) (ha : (s.data.toList.take k).all aln = true) (hc : aln s[k] = true) : (s.data.toList.take (k + 1)).all aln = true := by
  rw [take_snoc s k h, List.all_append, ha]
  simp [hc]

theorem alnB_no (s : ByteArray) (k : Nat) (h : k < s.size) (hc : aln s[k] = false) : alnB s.data.toList = false := by
  unfold alnB
  have : s.data.toList.all aln = false := by
    rw [← Bool.not_eq_true, List.all_eq_true]
    intro hall
    have := hall s[k] (by show s.data[k] ∈ s.data.toList; simp)
    rw [hc] at this
    exact absurd this (by simp)
  rw [this]; rfl

theorem alnB_all (s : ByteArray) (h : s.data.toList.all aln = true) : alnB s.data.toList = !s.data.toList.isEmpty := by
  unfold alnB; rw [h]; rfl

end Go.Proofs.Qxb6628818a.Plain
