/- The plain part of seat b6628862a: the lexicographic order on lists of bytes. No Go in sight. -/
import Derived.Lib.Bytealg
namespace Go.Proofs.Qxb6628862a.Plain
open Go.Lib (compareBytes)

theorem lt_nat {a b : UInt8} : a < b ↔ a.toNat < b.toNat := UInt8.lt_iff_toNat_lt

theorem cmp_range : ∀ (xs ys : List UInt8), compareBytes xs ys = -1 ∨ compareBytes xs ys = 0 ∨ compareBytes xs ys = 1
  | [], [] => by simp [compareBytes]
  | [], _ :: _ => by simp [compareBytes]
  | _ :: _, [] => by simp [compareBytes]
  | x :: xs, y :: ys => by
    unfold compareBytes
    by_cases h1 : x < y
    · simp [h1]
    · by_cases h2 : y < x
      · simp [h1, h2]
      · simp only [h1, h2, if_false]; exact cmp_range xs ys

theorem cmp_anti : ∀ (xs ys : List UInt8), compareBytes xs ys = - compareBytes ys xs
  | [], [] => by simp [compareBytes]
  | [], _ :: _ => by simp [compareBytes]
  | _ :: _, [] => by simp [compareBytes]
  | x :: xs, y :: ys => by
    unfold compareBytes
    by_cases h1 : x < y
    · have h2 : ¬ y < x := by rw [lt_nat] at *; omega
      simp [h1, h2]
    · by_cases h2 : y < x
      · simp [h1, h2]
      · simp only [h1, h2, if_false]; exact cmp_anti xs ys

theorem cmp_self : ∀ (xs : List UInt8), compareBytes xs xs = 0
  | [] => by simp [compareBytes]
  | x :: xs => by
    unfold compareBytes
    have h1 : ¬ x < x := by rw [lt_nat]; omega
    simp only [h1, if_false]; exact cmp_self xs

theorem cmp_eq : ∀ (xs ys : List UInt8), compareBytes xs ys = 0 → xs = ys
  | [], [] => by simp
  | [], _ :: _ => by simp [compareBytes]
  | _ :: _, [] => by simp [compareBytes]
  | x :: xs, y :: ys => by
    unfold compareBytes
    by_cases h1 : x < y
    · simp [h1]
    · by_cases h2 : y < x
      · simp [h1, h2]
      · simp only [h1, h2, if_false]
        intro h
        have e : x = y := by rw [lt_nat] at h1 h2; exact UInt8.toNat_inj.1 (by omega)
        rw [e, cmp_eq xs ys h]

/-- x ≤ y and y < z give x < z -/
theorem cmp_trans : ∀ (xs ys zs : List UInt8), compareBytes xs ys ≤ 0 → compareBytes ys zs < 0 → compareBytes xs zs < 0
  | [], [], [] => by simp [compareBytes]
  | [], [], _ :: _ => by simp [compareBytes]
  | [], _ :: _, [] => by simp [compareBytes]
  | [], _ :: _, _ :: _ => by simp [compareBytes]
  | _ :: _, [], _ => by simp [compareBytes]
  | _ :: _, _ :: _, [] => by simp [compareBytes]
  | x :: xs, y :: ys, z :: zs => by
    have ih := cmp_trans xs ys zs
    unfold compareBytes
    intro h1 h2
    by_cases xy : x < y
    · by_cases yz : y < z
      · have : x < z := by rw [lt_nat] at *; omega
        simp [this]
      · by_cases zy : z < y
        · simp [yz, zy] at h2
        · have : x < z := by rw [lt_nat] at *; omega
          simp [this]
    · by_cases yx : y < x
      · simp [xy, yx] at h1
      · have e : x = y := by rw [lt_nat] at xy yx; exact UInt8.toNat_inj.1 (by omega)
        subst e
        simp only [xy, if_false] at h1
        by_cases yz : x < z
        · simp [yz]
        · by_cases zy : z < x
          · simp [yz, zy] at h2
          · simp only [yz, zy, if_false] at h2 ⊢
            exact ih h1 h2

/-- x ≤ y and y ≤ z give x ≤ z -/
theorem cmp_trans_le (xs ys zs : List UInt8) (h1 : compareBytes xs ys ≤ 0) (h2 : compareBytes ys zs ≤ 0) : compareBytes xs zs ≤ 0 := by
  rcases cmp_range ys zs with h | h | h
  · have := cmp_trans xs ys zs h1 (by omega); omega
  · have := cmp_eq ys zs h; subst this; exact h1
  · omega

theorem cmp_drop_step {xs ys : List UInt8} {k : Nat} (h1 : k < xs.length) (h2 : k < ys.length) :
    compareBytes (xs.drop k) (ys.drop k) = if xs[k].toNat < ys[k].toNat then -1 else if ys[k].toNat < xs[k].toNat then 1 else compareBytes (xs.drop (k + 1)) (ys.drop (k + 1)) := by
  rw [List.drop_eq_getElem_cons h1, List.drop_eq_getElem_cons h2]
  rw [compareBytes]
  simp only [lt_nat]

theorem cmp_drop_end {xs ys : List UInt8} {k : Nat} (h : k = min xs.length ys.length) :
    compareBytes (xs.drop k) (ys.drop k) = if xs.length < ys.length then -1 else if ys.length < xs.length then 1 else 0 := by
  by_cases h1 : xs.length < ys.length
  · have e1 : xs.drop k = [] := List.drop_eq_nil_of_le (by omega)
    obtain ⟨y, l, e2⟩ : ∃ y l, ys.drop k = y :: l := ⟨_, _, List.drop_eq_getElem_cons (show k < ys.length by omega)⟩
    rw [e1, e2]; simp [compareBytes, h1]
  · by_cases h2 : ys.length < xs.length
    · have e1 : ys.drop k = [] := List.drop_eq_nil_of_le (by omega)
      obtain ⟨y, l, e2⟩ : ∃ y l, xs.drop k = y :: l := ⟨_, _, List.drop_eq_getElem_cons (show k < xs.length by omega)⟩
      rw [e1, e2]; simp [compareBytes, h1, h2]
    · have e1 : xs.drop k = [] := List.drop_eq_nil_of_le (by omega)
      have e2 : ys.drop k = [] := List.drop_eq_nil_of_le (by omega)
      rw [e1, e2]; simp [compareBytes, h1, h2]

end Go.Proofs.Qxb6628862a.Plain
