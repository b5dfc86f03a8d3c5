/- The plain part of seat b6628938a: lower-case hex digits, lists of bytes. No Go in sight. -/
import Derived.Laws.BytesArg
namespace Go.Proofs.Qxb6628938a.Plain

def hexc (c : UInt8) : Bool := (decide (48 ≤ c.toNat) && decide (c.toNat ≤ 57)) || (decide (97 ≤ c.toNat) && decide (c.toNat ≤ 102))

/-- every byte is a lower-case hex digit -/
def hexS (l : List UInt8) : Bool := l.all hexc

def tok (l : List UInt8) : Bool := decide (l.length = 40) && l.all hexc

theorem hexc_iff {c : UInt8} : hexc c = true ↔ (48 ≤ c.toNat ∧ c.toNat ≤ 57) ∨ (97 ≤ c.toNat ∧ c.toNat ≤ 102) := by
  unfold hexc
  simp

theorem take_snoc (s : ByteArray) (k : Nat) (h : k < s.size) : s.data.toList.take (k + 1) = s.data.toList.take k ++ [s[k]] := by
  rw [List.take_succ_eq_append_getElem (by simpa using h)]; rfl

theorem all_snoc (s : ByteArray) (k : Nat) (h : k < s.size) (ha : (s.data.toList.take k).all hexc = true) (hc : hexc s[k] = true) : (s.data.toList.take (k + 1)).all hexc = true := by
  rw [take_snoc s k h, List.all_append, ha]
  simp [hc]

theorem all_no (s : ByteArray) (k : Nat) (h : k < s.size) (hc : hexc s[k] = false) : s.data.toList.all hexc = false := by
  rw [← Bool.not_eq_true, List.all_eq_true]
  intro hall
  have := hall s[k] (by show s.data[k] ∈ s.data.toList; simp)
  rw [hc] at this
  exact absurd this (by simp)

theorem all_end (s : ByteArray) (k : Nat) (h : s.size ≤ k) (ha : (s.data.toList.take k).all hexc = true) : s.data.toList.all hexc = true := by
  rwa [List.take_of_length_le (by simpa using h)] at ha

theorem len_size (s : ByteArray) : s.data.toList.length = s.size := by simp

theorem tok_all {s : ByteArray} (hs : s.size = 40) : tok s.data.toList = s.data.toList.all hexc := by
  unfold tok; rw [len_size, hs]; simp

theorem tok_len {s : ByteArray} (hs : s.size ≠ 40) : tok s.data.toList = false := by
  unfold tok; rw [len_size]; simp [hs]

theorem data_append (a t : ByteArray) : (a ++ t).data.toList = a.data.toList ++ t.data.toList := by simp

theorem zeros_all (n : Nat) : (List.replicate n (48 : UInt8)).all hexc = true := by
  rw [List.all_eq_true]
  intro c hc
  rw [(List.mem_replicate.1 hc).2]
  decide

theorem tok_join {a b : ByteArray} (h : a.size + b.size = 40) : tok (a ++ b).data.toList = (a.data.toList.all hexc && b.data.toList.all hexc) := by
  rw [tok_all (by rw [ByteArray.size_append]; exact h), data_append, List.all_append]

theorem tok_left {a t : ByteArray} {n : Nat} (h : a.size + n = 40) (ht : t.data.toList = List.replicate n 48) : tok (a ++ t).data.toList = a.data.toList.all hexc := by
  have hz : t.size = n := by rw [← len_size, ht]; simp
  rw [tok_join (by omega), ht, zeros_all]; simp

theorem tok_right {b t : ByteArray} {n : Nat} (h : n + b.size = 40) (ht : t.data.toList = List.replicate n 48) : tok (t ++ b).data.toList = b.data.toList.all hexc := by
  have hz : t.size = n := by rw [← len_size, ht]; simp
  rw [tok_join (by omega), ht, zeros_all]; simp

theorem hexS_no (s : ByteArray) (k : Nat) (h : k < s.size) (hc : hexc s[k] = false) : hexS s.data.toList = false := all_no s k h hc
theorem hexS_end (s : ByteArray) (k : Nat) (h : s.size ≤ k) (ha : (s.data.toList.take k).all hexc = true) : hexS s.data.toList = true := all_end s k h ha

end Go.Proofs.Qxb6628938a.Plain
