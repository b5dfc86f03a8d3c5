/- zzBase36B1 (function 9): it returns letters and digits, at least one. -/
import Derived.Test.Qxb6628818aRows
import Derived.Test.Qxb6628818aAln
import Derived.Test.Qxb6628818aBuf
import Derived.WalkKit
namespace Go.Proofs.Qxb6628818a
open Go.RowKit
open Plain (aln alnB)

def zeros14 : List Int := List.replicate 14 0
theorem buf_start14 (w : World) (B : Nat) (hB : B = w.heap.size) : Buf 30 14 B 14 zeros14 (w.alloc (.cells #[.int .u8 0, .int .u8 0, .int .u8 0, .int .u8 0, .int .u8 0, .int .u8 0, .int .u8 0, .int .u8 0, .int .u8 0, .int .u8 0, .int .u8 0, .int .u8 0, .int .u8 0, .int .u8 0] 30)) := by
  subst hB
  refine ⟨rfl, ?_, fun i h1 h2 => by omega⟩
  rw [heap_alloc_new]
  rfl

theorem arr30 : Try.prog.underlying 30 = some (.array (Try.prog.arrayLen 30) (Try.prog.elem 30)) := by kernel_rfl
theorem len30 : Try.prog.arrayLen 30 = 14 := by kernel_rfl
theorem size30 (w : World) : (sizeOf (Try.prog.elem 30)).run Try.prog w = .ok 1 w := by kernel_rfl
theorem sl14 (B j : Nat) (hj : j < 14) (W : World) : (Instr.sliceAt 30 (.pointer (some ⟨B, 0, none⟩)) (some (.int .i64 (j : Int))) none none).run Try.prog W = .ok (.slice (some ⟨B, j, none⟩) (14 - j) (14 - j)) W := by
  rw [run_sliceAt_array_l W 30 ⟨B, 0, none⟩ arr30 .i64 j (by omega) (by rw [len30]; omega), len30, size30]
  simp only [slicedAt, Result.andThen, Int.toNat_natCast]
  rw [if_neg (by omega)]
  simp [Addr.add]
  omega

theorem Buf.conv36 {T : TypeId} {N B j : Nat} {zs : List Int} {w : World} (h : Buf T N B j zs w) :
    (convert 29 9 (.slice (some ⟨B, j, none⟩) (N - j) (N - j))).run Try.prog w = .ok (.string (strOfNums (zs.drop j))) w := by
  refine run_convert_bytes_arg w 29 5 Try.underlying29 Try.underlying5 B j (N - j) (N - j) (zs.drop j) (by simp [h.len]) (fun i hi => ?_) 9 Try.underlying9
  rw [getD_drop]
  exact h.cell (by omega)

theorem good_all : ∀ n : Fin 36, (48 ≤ (({ data := #[48, 49, 50, 51, 52, 53, 54, 55, 56, 57, 65, 66, 67, 68, 69, 70, 71, 72, 73, 74, 75, 76, 77, 78, 79, 80, 81, 82, 83, 84, 85, 86, 87, 88, 89, 90] } : ByteArray).data.toList.getD n.val 0).toNat ∧ (({ data := #[48, 49, 50, 51, 52, 53, 54, 55, 56, 57, 65, 66, 67, 68, 69, 70, 71, 72, 73, 74, 75, 76, 77, 78, 79, 80, 81, 82, 83, 84, 85, 86, 87, 88, 89, 90] } : ByteArray).data.toList.getD n.val 0).toNat ≤ 57) ∨ (65 ≤ (({ data := #[48, 49, 50, 51, 52, 53, 54, 55, 56, 57, 65, 66, 67, 68, 69, 70, 71, 72, 73, 74, 75, 76, 77, 78, 79, 80, 81, 82, 83, 84, 85, 86, 87, 88, 89, 90] } : ByteArray).data.toList.getD n.val 0).toNat ∧ (({ data := #[48, 49, 50, 51, 52, 53, 54, 55, 56, 57, 65, 66, 67, 68, 69, 70, 71, 72, 73, 74, 75, 76, 77, 78, 79, 80, 81, 82, 83, 84, 85, 86, 87, 88, 89, 90] } : ByteArray).data.toList.getD n.val 0).toNat ≤ 90) := by decide

theorem dig_size (x : Nat) : x % 36 < ({ data := #[48, 49, 50, 51, 52, 53, 54, 55, 56, 57, 65, 66, 67, 68, 69, 70, 71, 72, 73, 74, 75, 76, 77, 78, 79, 80, 81, 82, 83, 84, 85, 86, 87, 88, 89, 90] } : ByteArray).size := Nat.mod_lt _ (by decide)

theorem good_dig (x : Nat) : good ((({ data := #[48, 49, 50, 51, 52, 53, 54, 55, 56, 57, 65, 66, 67, 68, 69, 70, 71, 72, 73, 74, 75, 76, 77, 78, 79, 80, 81, 82, 83, 84, 85, 86, 87, 88, 89, 90] } : ByteArray)[x % 36]'(dig_size x)).toNat : Int) := by
  have h := good_all ⟨x % 36, Nat.mod_lt _ (by decide)⟩
  have e : ({ data := #[48, 49, 50, 51, 52, 53, 54, 55, 56, 57, 65, 66, 67, 68, 69, 70, 71, 72, 73, 74, 75, 76, 77, 78, 79, 80, 81, 82, 83, 84, 85, 86, 87, 88, 89, 90] } : ByteArray).data.toList.getD (x % 36) 0 = ({ data := #[48, 49, 50, 51, 52, 53, 54, 55, 56, 57, 65, 66, 67, 68, 69, 70, 71, 72, 73, 74, 75, 76, 77, 78, 79, 80, 81, 82, 83, 84, 85, 86, 87, 88, 89, 90] } : ByteArray)[x % 36]'(dig_size x) := by
    rw [List.getD, List.getElem?_eq_getElem (show x % 36 < ({ data := #[48, 49, 50, 51, 52, 53, 54, 55, 56, 57, 65, 66, 67, 68, 69, 70, 71, 72, 73, 74, 75, 76, 77, 78, 79, 80, 81, 82, 83, 84, 85, 86, 87, 88, 89, 90] } : ByteArray).data.toList.length from Nat.mod_lt _ (by decide))]
    rfl
  rw [e] at h
  unfold good
  omega

set_option maxHeartbeats 400000 in
theorem b36 (x0 : Int) (w : World) (h0 : 0 ≤ x0) (h1 : x0 ≤ 18446744073709551615) :
    Calls Try.prog 9 #[.int .u64 x0] w fun e w' => ∃ t : ByteArray, e = .returned (.string t) ∧ t.size ≤ 14 ∧ alnB t.data.toList = true ∧ Grown w w' := by
  go_enter Try.func9, Try.ntmps9
  go_wp2
  go_loopw [0, 4] (fun u k wr => ∃ (x j : Nat) (zs : List Int), u = .int .u64 x ∧ k = .int .i64 ((j + 1 : Nat) : Int) ∧ j < 14 ∧ Hid (x < 36 ^ (j + 1)) ∧ x ≤ 18446744073709551615 ∧ Buf 30 14 w.heap.size (j + 1) zs wr ∧ Grown w wr) (fun _ k _ => (intOf k).toNat)
  case atStart => exact ⟨x0.toNat, 13, zeros14, by go_num, rfl, by omega, by show _ < _; omega, by omega, buf_start14 w _ rfl, (Grown.refl _).alloc _ _⟩
  case round =>
    obtain ⟨x, j, zs, rfl, rfl, hj, hx, hx2, hbuf, hg⟩ := hrel
    have hc := hbuf.cell hj
    have hf := hbuf.frozen j
    have hsl := sl14 w.heap.size j hj
    have h36 := hide (step36 hx.out)
    have hn := hbuf.put hj (good_dig x)
    have hcv := hn.conv36
    have hst := hide (hn.str hj)
    go_wp2
    · go_ret
      exact ⟨_, rfl, by rw [hst.out.1]; omega, hst.out.2, hg.setCell (Nat.le_refl _) _⟩
    · rename_i hne
      have hne' : x / 36 ≠ 0 := by intro e; rw [show ((x : Int) / 36) = ((x / 36 : Nat) : Int) from by omega, e] at hne; simp at hne
      have hj1 := h36.out.2 hne'
      obtain ⟨j', rfl⟩ : ∃ j', j = j' + 1 := ⟨j - 1, by omega⟩
      go_roundw
      case rel => exact ⟨x / 36, j', _, by go_num, rfl, by omega, h36.out.1, by omega, hn, hg.setCell (Nat.le_refl _) _⟩
      case measure => simp [intOf]; omega
end Go.Proofs.Qxb6628818a
