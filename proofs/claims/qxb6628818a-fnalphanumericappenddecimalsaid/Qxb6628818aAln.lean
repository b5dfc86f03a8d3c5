/- invoice.IsAlphanumeric (function 7): it returns 'alnB' of the bytes; the world is as it was. -/
import Derived.Test.Qxb6628818aRows
import Derived.Test.Qxb6628818aPlain
import Derived.WalkKit
namespace Go.Proofs.Qxb6628818a
open Go.RowKit
open Plain (aln alnB)

theorem hide {p : Prop} (h : p) : Hid p := h
theorem ret_bool {a b : Bool} (h : a = b) : Ending.returned (.bool a) = .returned (.bool b) := by rw [h]

set_option maxHeartbeats 400000 in
theorem isAln (s : ByteArray) (w : World) (hs : s.size ≤ maxLen) :
    Calls Try.prog 7 #[.string s] w fun e w' => e = .returned (.bool (alnB s.data.toList)) ∧ w' = w := by
  unfold maxLen at hs
  go_enter Try.func7, Try.ntmps7
  go_wp2
  go_loop [3] (fun i => ∃ k : Nat, k ≤ s.size ∧ i = .int .i64 k ∧ (s.data.toList.take k).all aln = true) (fun i => s.size - (intOf i).toNat)
  case atStart => exact ⟨0, Nat.zero_le _, rfl, rfl⟩
  case round =>
    obtain ⟨k, hk, rfl, hall⟩ := hrel
    by_cases hlt : k < s.size
    · have HS : Hid ((s.data.toList.take k).all aln = true) := hall
      clear hall
      have hyes : ((48 ≤ s[k].toNat ∧ s[k].toNat ≤ 57) ∨ (97 ≤ s[k].toNat ∧ s[k].toNat ≤ 122) ∨ (65 ≤ s[k].toNat ∧ s[k].toNat ≤ 90)) → aln s[k] = true := Plain.aln_of
      have hno : ¬ ((48 ≤ s[k].toNat ∧ s[k].toNat ≤ 57) ∨ (97 ≤ s[k].toNat ∧ s[k].toNat ≤ 122) ∨ (65 ≤ s[k].toNat ∧ s[k].toNat ≤ 90)) → alnB s.data.toList = false := fun h => Plain.alnB_no s k hlt (by rw [← Bool.not_eq_true, Plain.aln_iff]; exact h)
      have HY := hide hyes
      have HN := hide hno
      clear hyes hno
      rcases (show ((s[k].toNat : Int) < 48) ∨ ((48 : Int) ≤ s[k].toNat ∧ (s[k].toNat : Int) ≤ 57) ∨ ((57 : Int) < s[k].toNat ∧ (s[k].toNat : Int) < 65) ∨ ((65 : Int) ≤ s[k].toNat ∧ (s[k].toNat : Int) ≤ 90) ∨ ((90 : Int) < s[k].toNat ∧ (s[k].toNat : Int) < 97) ∨ ((97 : Int) ≤ s[k].toNat ∧ (s[k].toNat : Int) ≤ 122) ∨ ((122 : Int) < s[k].toNat) from by omega) with h1 | ⟨h1, h2⟩ | ⟨h1, h2⟩ | ⟨h1, h2⟩ | ⟨h1, h2⟩ | ⟨h1, h2⟩ | h1
      · go_wp2
        go_ret
        exact ⟨ret_bool (HN.out (by omega)).symm, rfl⟩
      · go_wp2
        go_round
        case rel => exact ⟨k + 1, by omega, by go_num, Plain.all_snoc s k hlt HS.out (HY.out (by omega))⟩
        case measure => simp [intOf]; omega
      · have d57 : decide ((s[k].toNat : Int) ≤ 57) = false := by simp; omega
        go_wp2
        go_ret
        exact ⟨ret_bool (HN.out (by omega)).symm, rfl⟩
      · have d57 : decide ((s[k].toNat : Int) ≤ 57) = false := by simp; omega
        go_wp2
        go_round
        case rel => exact ⟨k + 1, by omega, by go_num, Plain.all_snoc s k hlt HS.out (HY.out (by omega))⟩
        case measure => simp [intOf]; omega
      · have d57 : decide ((s[k].toNat : Int) ≤ 57) = false := by simp; omega
        have d90 : decide ((s[k].toNat : Int) ≤ 90) = false := by simp; omega
        go_wp2
        go_ret
        exact ⟨ret_bool (HN.out (by omega)).symm, rfl⟩
      · have d57 : decide ((s[k].toNat : Int) ≤ 57) = false := by simp; omega
        have d90 : decide ((s[k].toNat : Int) ≤ 90) = false := by simp; omega
        go_wp2
        go_round
        case rel => exact ⟨k + 1, by omega, by go_num, Plain.all_snoc s k hlt HS.out (HY.out (by omega))⟩
        case measure => simp [intOf]; omega
      · have d57 : decide ((s[k].toNat : Int) ≤ 57) = false := by simp; omega
        have d90 : decide ((s[k].toNat : Int) ≤ 90) = false := by simp; omega
        have d122 : decide ((s[k].toNat : Int) ≤ 122) = false := by simp; omega
        go_wp2
        go_ret
        exact ⟨ret_bool (HN.out (by omega)).symm, rfl⟩
    · go_wp2
      go_ret
      have : s.data.toList.take k = s.data.toList := List.take_of_length_le (by simp; omega)
      rw [this] at hall
      exact ⟨ret_bool (by rw [Plain.alnB_all s hall, ByteArray.toList_eq]), rfl⟩

end Go.Proofs.Qxb6628818a
