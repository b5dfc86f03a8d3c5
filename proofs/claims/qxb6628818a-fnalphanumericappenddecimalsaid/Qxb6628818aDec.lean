/- zzDecimalB1 (function 6): it returns letters and digits where n is not negative, else a '-' ahead of them. -/
import Derived.Test.Qxb6628818aRows
import Derived.Test.Qxb6628818aAln
import Derived.Test.Qxb6628818aBuf
import Derived.WalkKit
namespace Go.Proofs.Qxb6628818a
open Go.RowKit
open Plain (aln alnB)

def zeros20 : List Int := List.replicate 20 0
theorem buf_start (w : World) (B : Nat) (hB : B = w.heap.size) : Buf 28 20 B 20 zeros20 (w.alloc (.cells #[.int .u8 0, .int .u8 0, .int .u8 0, .int .u8 0, .int .u8 0, .int .u8 0, .int .u8 0, .int .u8 0, .int .u8 0, .int .u8 0, .int .u8 0, .int .u8 0, .int .u8 0, .int .u8 0, .int .u8 0, .int .u8 0, .int .u8 0, .int .u8 0, .int .u8 0, .int .u8 0] 28)) := by
  subst hB
  refine ⟨rfl, ?_, fun i h1 h2 => by omega⟩
  rw [heap_alloc_new]
  rfl

theorem arr28 : Try.prog.underlying 28 = some (.array (Try.prog.arrayLen 28) (Try.prog.elem 28)) := by kernel_rfl
theorem len28 : Try.prog.arrayLen 28 = 20 := by kernel_rfl
theorem size28 (w : World) : (sizeOf (Try.prog.elem 28)).run Try.prog w = .ok 1 w := by kernel_rfl
theorem sl20 (B j : Nat) (hj : j < 20) (W : World) : (Instr.sliceAt 28 (.pointer (some ⟨B, 0, none⟩)) (some (.int .i64 (j : Int))) none none).run Try.prog W = .ok (.slice (some ⟨B, j, none⟩) (20 - j) (20 - j)) W := by
  rw [run_sliceAt_array_l W 28 ⟨B, 0, none⟩ arr28 .i64 j (by omega) (by rw [len28]; omega), len28, size28]
  simp only [slicedAt, Result.andThen, Int.toNat_natCast]
  rw [if_neg (by omega)]
  simp [Addr.add]
  omega

theorem Buf.conv {T : TypeId} {N B j : Nat} {zs : List Int} {w : World} (h : Buf T N B j zs w) :
    (convert 29 9 (.slice (some ⟨B, j, none⟩) (N - j) (N - j))).run Try.prog w = .ok (.string (strOfNums (zs.drop j))) w := by
  refine run_convert_bytes_arg w 29 5 Try.underlying29 Try.underlying5 B j (N - j) (N - j) (zs.drop j) (by simp [h.len]) (fun i hi => ?_) 9 Try.underlying9
  rw [getD_drop]
  exact h.cell (by omega)

theorem d10 (x : Nat) : good (48 + (x : Int) % 10) := by unfold good; omega

/-- the first digit's place, the number, the bytes: what stands behind the loop -/
theorem Buf.next {B j x : Nat} {zs : List Int} {w : World} (h : Buf 28 20 B (j + 1) zs w) (hj : j < 20) :
    Buf 28 20 B j (zs.set j (48 + (x : Int) % 10)) (w.setCell ⟨B, j, none⟩ (.int .u8 (48 + (x : Int) % 10))) := h.put hj (d10 x)

set_option maxHeartbeats 400000 in
theorem dec_pos (n : Int) (w : World) (h0 : 0 ≤ n) (h1 : n ≤ 9223372036854775807) :
    Calls Try.prog 6 #[.int .i64 n] w fun e w' => ∃ t : ByteArray, e = .returned (.string t) ∧ t.size ≤ 21 ∧ alnB t.data.toList = true ∧ Grown w w' := by
  have hneg : decide (n < 0) = false := by simp; omega
  go_enter Try.func6, Try.ntmps6
  go_wp2
  go_loopw [4, 5] (fun u k wr => ∃ (x j : Nat) (zs : List Int), u = .int .u64 x ∧ k = .int .i64 ((j + 1 : Nat) : Int) ∧ j < 20 ∧ Hid (x < 10 ^ (j + 1)) ∧ x ≤ 18446744073709551615 ∧ Buf 28 20 w.heap.size (j + 1) zs wr ∧ Grown w wr) (fun _ k _ => (intOf k).toNat)
  case atStart => exact ⟨n.toNat, 19, zeros20, by go_num, rfl, by omega, by show _ < _; omega, by omega, buf_start w _ rfl, (Grown.refl _).alloc _ _⟩
  case round =>
    obtain ⟨x, j, zs, rfl, rfl, hj, hx, hx2, hbuf, hg⟩ := hrel
    have hc := hbuf.cell hj
    have hf := hbuf.frozen j
    have hsl := sl20 w.heap.size j hj
    have hn := hbuf.next (x := x) hj
    have hcv := hn.conv
    have hst := hide (hn.str hj)
    have h10 := hide (step10 hx.out)
    go_wp2
    · go_ret
      exact ⟨_, rfl, by rw [hst.out.1]; omega, hst.out.2, hg.setCell (Nat.le_refl _) _⟩
    · rename_i hne
      have hne' : x / 10 ≠ 0 := by intro e; rw [show ((x : Int) / 10) = ((x / 10 : Nat) : Int) from by omega, e] at hne; simp at hne
      have hj1 := h10.out.2 hne'
      obtain ⟨j', rfl⟩ : ∃ j', j = j' + 1 := ⟨j - 1, by omega⟩
      go_roundw
      case rel => exact ⟨x / 10, j', _, by go_num, rfl, by omega, h10.out.1, by omega, hn, hg.setCell (Nat.le_refl _) _⟩
      case measure => simp [intOf]; omega

theorem neg_wrap (n : Int) (h0 : n < 0) (h1 : -9223372036854775808 ≤ n) : IntKind.u64.wrap (-IntKind.u64.wrap n) = ((-n).toNat : Int) := by
  rw [IntKind.wrap_u64, IntKind.wrap_u64]; omega

theorem dash (t : ByteArray) : alnB ((⟨#[45]⟩ : ByteArray) ++ t).data.toList = false ∧ ((⟨#[45]⟩ : ByteArray) ++ t).data.toList.all aln = false := by
  have e : ((⟨#[45]⟩ : ByteArray) ++ t).data.toList = 45 :: t.data.toList := by simp
  unfold alnB
  rw [e]
  have : aln 45 = false := by decide
  simp [this]

set_option maxHeartbeats 400000 in
theorem dec_neg (n : Int) (w : World) (h0 : n < 0) (h1 : -9223372036854775808 ≤ n) :
    Calls Try.prog 6 #[.int .i64 n] w fun e w' => ∃ t : ByteArray, e = .returned (.string t) ∧ t.size ≤ 21 ∧ t.data.toList.all aln = false ∧ Grown w w' := by
  have hneg : decide (n < 0) = true := by simp; omega
  have hw := neg_wrap n h0 h1
  obtain ⟨m, hm⟩ : ∃ m : Nat, (-n).toNat = m := ⟨_, rfl⟩
  rw [hm] at hw
  have hm2 : m ≤ 9223372036854775808 := by omega
  clear hm
  go_enter Try.func6, Try.ntmps6
  go_wp2
  go_loopw [4, 5] (fun u k wr => ∃ (x j : Nat) (zs : List Int), u = .int .u64 x ∧ k = .int .i64 ((j + 1 : Nat) : Int) ∧ j < 20 ∧ Hid (x < 10 ^ (j + 1)) ∧ x ≤ 18446744073709551615 ∧ Buf 28 20 w.heap.size (j + 1) zs wr ∧ Grown w wr) (fun _ k _ => (intOf k).toNat)
  case atStart => exact ⟨m, 19, zeros20, rfl, rfl, by omega, by show _ < _; omega, by omega, buf_start w _ rfl, (Grown.refl _).alloc _ _⟩
  case round =>
    clear hw
    obtain ⟨x, j, zs, rfl, rfl, hj, hx, hx2, hbuf, hg⟩ := hrel
    have hc := hbuf.cell hj
    have hf := hbuf.frozen j
    have hsl := sl20 w.heap.size j hj
    have hn := hbuf.next (x := x) hj
    have hcv := hn.conv
    have hst := (hn.str hj).1
    generalize strOfNums ((zs.set j (48 + (x : Int) % 10)).drop j) = t at hcv hst
    have hadd : ∀ W, (Op.stringOp .add ⟨#[45]⟩ t).run Try.prog W = .ok (.string (⟨#[45]⟩ ++ t)) W := fun W => run_string_add_sum W _ _ (by rw [hst]; show 1 + _ ≤ _; omega)
    have hts := hide hst
    clear hst
    have h10 := hide (step10 hx.out)
    go_wp2
    · go_ret
      exact ⟨_, rfl, by rw [ByteArray.size_append, hts.out]; show 1 + _ ≤ _; omega, (dash t).2, hg.setCell (Nat.le_refl _) _⟩
    · rename_i hne
      have hne' : x / 10 ≠ 0 := by intro e; rw [show ((x : Int) / 10) = ((x / 10 : Nat) : Int) from by omega, e] at hne; simp at hne
      have hj1 := h10.out.2 hne'
      obtain ⟨j', rfl⟩ : ∃ j', j = j' + 1 := ⟨j - 1, by omega⟩
      go_roundw
      case rel => exact ⟨x / 10, j', _, by go_num, rfl, by omega, h10.out.1, by omega, hn, hg.setCell (Nat.le_refl _) _⟩
      case measure => simp [intOf]; omega
end Go.Proofs.Qxb6628818a
