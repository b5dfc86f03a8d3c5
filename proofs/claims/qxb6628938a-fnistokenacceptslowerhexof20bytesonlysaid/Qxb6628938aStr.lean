/- zzZeros (function 7), zzIsLowerHexString (function 8): contracts. -/
import Derived.Test.Qxb6628938aMem
namespace Go.Proofs.Qxb6628938a
open Go.RowKit
open Plain (hexc hexS tok)

/-! ### zzZeros -/
theorem zeros_set {zs : List Int} {n k : Nat} (hl : zs.length = n) (hk : k < n) (h : ∀ i, i < k → zs.getD i 0 = 48) :
    (zs.set k 48).length = n ∧ ∀ i, i < k + 1 → (zs.set k 48).getD i 0 = 48 := by
  refine ⟨by simpa using hl, fun i hi => ?_⟩
  by_cases e : i = k
  · subst e
    simp [List.getD, hl, hk]
  · have := h i (by omega)
    simpa [List.getD, List.getElem?_set, show ¬ k = i by omega] using this

theorem zeros_str {zs : List Int} {n : Nat} (hl : zs.length = n) (h : ∀ i, i < n → zs.getD i 0 = 48) : (strOfNums zs).data.toList = List.replicate n 48 := by
  rw [strOfNums_data]
  apply List.ext_getElem
  · simp [hl]
  · intro i h1 h2
    have hi : i < zs.length := by simpa using h1
    have := h i (by omega)
    rw [List.getD, List.getElem?_eq_getElem hi] at this
    simp at this
    simp [this]

set_option maxHeartbeats 400000 in
theorem zeros (n : Nat) (w : World) (hn : n ≤ 40) :
    Calls Try.prog 7 #[.int .i64 (n : Int)] w fun e w' => ∃ t : ByteArray, e = .returned (.string t) ∧ t.data.toList = List.replicate n 48 ∧ Grown w w' := by
  by_cases h0 : n = 0
  · subst h0
    go_enter Try.func7, Try.ntmps7
    go_wp2
    go_ret
    exact ⟨_, rfl, rfl, Grown.refl _⟩
  · have hp : (0 : Int) < (n : Int) := by omega
    have hmk := mk_run n (by omega)
    go_enter Try.func7, Try.ntmps7
    go_wp2
    go_loopw [4] (fun i wr => ∃ (k : Nat) (zs : List Int), k ≤ n ∧ i = .int .i64 k ∧ Hid (zs.length = n) ∧ Hid (∀ i, i < k → zs.getD i 0 = 48) ∧ Blk w.heap.size zs wr ∧ Grown w wr) (fun i _ => n - (intOf i).toNat)
    case atStart => exact ⟨0, _, Nat.zero_le _, rfl, List.length_replicate, fun i hi => absurd hi (Nat.not_lt_zero i), Blk.made w n, (Grown.refl _).alloc _ _⟩
    case round =>
      obtain ⟨k, zs, hk, rfl, hl, hz, hblk, hb⟩ := hrel
      by_cases hlt : k < n
      · have hc := hblk.cell (i := k) (by rw [hl.out]; exact hlt)
        have hf := hblk.frozen k
        have hlt' : (k : Int) < (n : Int) := by omega
        go_wp2
        go_roundw
        case rel => exact ⟨k + 1, _, by omega, by go_num, (zeros_set hl.out hlt hz.out).1, (zeros_set hl.out hlt hz.out).2, hblk.put k 48, hb.setCell (Nat.le_refl _) _⟩
        case measure => simp [intOf]; omega
      · have hcv := hblk.conv n hl.out
        go_wp2
        go_ret
        exact ⟨_, rfl, zeros_str hl.out (fun i hi => hz.out i (by omega)), hb⟩

/-! ### zzIsLowerHexString -/
def dig (i : Nat) : Nat := if i < 10 then 48 + i else 87 + i

theorem dig_all : ∀ n : Fin 16, (({ data := #[48, 49, 50, 51, 52, 53, 54, 55, 56, 57, 97, 98, 99, 100, 101, 102] } : ByteArray).data.toList.getD n.val 0).toNat = dig n.val := by decide

theorem dig_get (n : Nat) (h : n < ({ data := #[48, 49, 50, 51, 52, 53, 54, 55, 56, 57, 97, 98, 99, 100, 101, 102] } : ByteArray).size) :
    ((({ data := #[48, 49, 50, 51, 52, 53, 54, 55, 56, 57, 97, 98, 99, 100, 101, 102] } : ByteArray)[n]'h).toNat : Int) = (dig n : Int) := by
  have hn : n < 16 := h
  have e := dig_all ⟨n, hn⟩
  have e2 : ({ data := #[48, 49, 50, 51, 52, 53, 54, 55, 56, 57, 97, 98, 99, 100, 101, 102] } : ByteArray).data.toList.getD n 0 = ({ data := #[48, 49, 50, 51, 52, 53, 54, 55, 56, 57, 97, 98, 99, 100, 101, 102] } : ByteArray)[n]'h := by
    rw [List.getD, List.getElem?_eq_getElem (show n < ({ data := #[48, 49, 50, 51, 52, 53, 54, 55, 56, 57, 97, 98, 99, 100, 101, 102] } : ByteArray).data.toList.length from h)]
    rfl
  rw [e2] at e
  exact congrArg Int.ofNat e

def seen (c : Nat) : Nat → Bool
  | 0 => false
  | m + 1 => seen c m || (dig m == c)

theorem seen_end (c : UInt8) : seen c.toNat 16 = hexc c := by
  rw [Bool.eq_iff_iff, Plain.hexc_iff]
  simp [seen, dig]
  omega

set_option maxHeartbeats 400000 in
theorem isHex (s : ByteArray) (w : World) (hs : s.size ≤ 9223372036854775807) :
    Calls Try.prog 8 #[.string s] w fun e w' => e = .returned (.bool (hexS s.data.toList)) ∧ w' = w := by
  have hdg := dig_get
  go_enter Try.func8, Try.ntmps8
  go_wp2
  go_loop [3] (fun i => ∃ k : Nat, k ≤ s.size ∧ i = .int .i64 k ∧ Hid ((s.data.toList.take k).all hexc = true)) (fun i => s.size - (intOf i).toNat)
  case atStart => exact ⟨0, Nat.zero_le _, rfl, rfl⟩
  case round =>
    obtain ⟨k, hk, rfl, HS⟩ := hrel
    by_cases hlt : k < s.size
    · have HN := hide (Plain.hexS_no s k hlt)
      have HY := hide (Plain.all_snoc s k hlt HS.out)
      have HE := hide (seen_end s[k])
      go_wp2
      go_loop [5, 6] (fun ok i => ∃ m : Nat, m ≤ 16 ∧ i = .int .i64 m ∧ ok = .bool (seen s[k].toNat m)) (fun _ i => 16 - (intOf i).toNat)
      case atStart => exact ⟨0, Nat.zero_le _, rfl, rfl⟩
      case round =>
        obtain ⟨m, hm, rfl, rfl⟩ := hrel
        by_cases hm2 : m < 16
        · have hm3 : (m : Int) < 16 := by omega
          go_wp2
          · have hq : ((dig m : Int) == (s[k].toNat : Int)) = true := by assumption
            have hq2 : dig m = s[k].toNat := by rw [beq_iff_eq] at hq; omega
            go_round
            case rel => exact ⟨m + 1, by omega, by go_num, by simp [seen, hq2]⟩
            case measure => simp [intOf]; omega
          · have hq : ((dig m : Int) == (s[k].toNat : Int)) = false := by assumption
            have hq2 : (dig m == s[k].toNat) = false := by rw [beq_eq_false_iff_ne] at hq ⊢; omega
            go_round
            case rel => exact ⟨m + 1, by omega, by go_num, by simp [seen, hq2]⟩
            case measure => simp [intOf]; omega
        · have hsn : seen s[k].toNat m = hexc s[k] := by rw [show m = 16 by omega]; exact HE.out
          cases hb : hexc s[k] with
          | false =>
            rw [hb] at hsn
            have HF := hide (HN.out hb)
            clear hb HE HN
            go_wp2
            go_ret
            exact ⟨ret_bool HF.out.symm, rfl⟩
          | true =>
            rw [hb] at hsn
            have HF := hide (HY.out hb)
            clear hb HE HY
            go_wp2
            go_round
            case rel => exact ⟨k + 1, by omega, by go_num, HF⟩
            case measure => simp [intOf]; omega
    · go_wp2
      go_ret
      exact ⟨ret_bool (Plain.hexS_end s k (by omega) HS.out).symm, rfl⟩

end Go.Proofs.Qxb6628938a
