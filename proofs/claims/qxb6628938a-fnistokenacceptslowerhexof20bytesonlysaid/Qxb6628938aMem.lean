/- A block of bytes that the call itself has made. -/
import Derived.Test.Qxb6628938aPlain
import Derived.Test.Qxb6628938aRows
import Derived.WalkKit
import Derived.Deep.OwnRows
namespace Go.Proofs.Qxb6628938a
open Go.RowKit
open Plain (hexc tok)

theorem hide {p : Prop} (h : p) : Hid p := h
theorem ret_bool {a b : Bool} (h : a = b) : Ending.returned (.bool a) = .returned (.bool b) := by rw [h]

/-- block B holds the bytes zs, not frozen -/
structure Blk (B : Nat) (zs : List Int) (w : World) : Prop where
  heap : w.heap[B]? = some (.cells (zs.map (Value.int .u8)).toArray 5 (0, 0))

theorem Blk.cell {B : Nat} {zs : List Int} {w : World} (h : Blk B zs w) {i : Nat} (hi : i < zs.length) : w.cell? ⟨B, i, none⟩ = some (.int .u8 (zs.getD i 0)) := by
  rw [cell_of_row w B i _ 5 (0, 0) h.heap]
  simp [List.getD, List.getElem?_eq_getElem hi]

theorem Blk.frozen {B : Nat} {zs : List Int} {w : World} (h : Blk B zs w) (i : Nat) : w.frozen? ⟨B, i, none⟩ = false :=
  frozen_of_row w B i _ 5 h.heap

theorem Blk.put {B : Nat} {zs : List Int} {w : World} (h : Blk B zs w) (j : Nat) (d : Int) :
    Blk B (zs.set j d) (w.setCell ⟨B, j, none⟩ (.int .u8 d)) := by
  refine ⟨?_⟩
  rw [heap_setCell_same w B j _ 5 _ h.heap]
  congr 2
  apply Array.ext'
  simp [List.map_set]

theorem Blk.other {B C : Nat} {zs : List Int} {w : World} (h : Blk B zs w) (j : Nat) (v : Value) (hne : B ≠ C) : Blk B zs (w.setCell ⟨C, j, none⟩ v) := by
  refine ⟨?_⟩
  rw [heap_setCell_other _ _ _ _ hne]
  exact h.heap

theorem Blk.below {B : Nat} {zs : List Int} {w w' : World} (h : Blk B zs w) (hb : Below w.heap.size w w') : Blk B zs w' := by
  refine ⟨?_⟩
  rw [hb.block B, h.heap]
  have := h.heap
  rcases Nat.lt_or_ge B w.heap.size with hlt | hge
  · exact hlt
  · rw [Array.getElem?_eq_none hge] at this; cases this

theorem Blk.lt {B : Nat} {zs : List Int} {w : World} (h : Blk B zs w) : B < w.heap.size := by
  rcases Nat.lt_or_ge B w.heap.size with hlt | hge
  · exact hlt
  · have := h.heap
    rw [Array.getElem?_eq_none hge] at this; cases this

theorem made_u8 (n : Nat) : madeCells #[.int .u8 0] n = ((List.replicate n (0 : Int)).map (Value.int .u8)).toArray := by
  apply Array.ext
  · rw [size_madeCells]; simp
  · intro i h1 h2
    simp [madeCells, Nat.mod_one]

theorem Blk.made (w : World) (n : Nat) : Blk w.heap.size (List.replicate n 0) (w.alloc (.cells (madeCells #[.int .u8 0] n) 5)) := by
  refine ⟨?_⟩
  rw [heap_alloc_new, made_u8]

theorem info5 : (Try.prog.info? 5).map (fun i => (i.zero, i.size, i.bytes)) = some (some (.int .u8 0), 1, 1) := by kernel_rfl

theorem mk_run (n : Nat) (hn : n ≤ 1048576) (w : World) :
    (Instr.makeSlice 25 (.int .i64 (n : Int)) (.int .i64 (n : Int))).run Try.prog w = .ok (.slice (some ⟨w.heap.size, 0, none⟩) n n) (w.alloc (.cells (madeCells #[.int .u8 0] n) 5)) :=
  run_make_row' 25 5 (.int .u8 0) 1 Try.underlying25 info5 rfl .i64 .i64 n (by omega) (by omega) w

theorem Blk.conv {B : Nat} {zs : List Int} {w : World} (h : Blk B zs w) (n : Nat) (hn : zs.length = n) :
    (convert 25 9 (.slice (some ⟨B, 0, none⟩) n n)).run Try.prog w = .ok (.string (strOfNums zs)) w :=
  run_convert_bytes_arg w 25 5 Try.underlying25 Try.underlying5 B 0 n n zs hn (fun i hi => by
    have e : 0 + i = i := Nat.zero_add i
    rw [e]; exact h.cell (by omega)) 9 Try.underlying9

/-! ### IsToken (function 6) -/
set_option maxHeartbeats 400000 in
theorem isTok (s : ByteArray) (w : World) (hs : s.size ≤ 9223372036854775807) :
    Calls Try.prog 6 #[.string s] w fun e w' => e = .returned (.bool (tok s.data.toList)) ∧ w' = w := by
  by_cases h40 : s.size = 40
  · have HT := hide (Plain.tok_all h40)
    have hb : ((s.size : Int) != 40) = false := by rw [bne_eq_false_iff_eq]; omega
    have hle : s.size ≤ 40 := by omega
    clear h40
    go_enter Try.func6, Try.ntmps6
    go_wp2
    go_loop [3] (fun i => ∃ k : Nat, k ≤ s.size ∧ i = .int .i64 k ∧ Hid ((s.data.toList.take k).all hexc = true)) (fun i => s.size - (intOf i).toNat)
    case atStart => exact ⟨0, Nat.zero_le _, rfl, rfl⟩
    case round =>
      obtain ⟨k, hk, rfl, HS⟩ := hrel
      by_cases hlt : k < s.size
      · have HY := hide fun (h : (48 ≤ s[k].toNat ∧ s[k].toNat ≤ 57) ∨ (97 ≤ s[k].toNat ∧ s[k].toNat ≤ 102)) => (Plain.hexc_iff (c := s[k])).2 h
        have HN := hide fun (h : ¬ ((48 ≤ s[k].toNat ∧ s[k].toNat ≤ 57) ∨ (97 ≤ s[k].toNat ∧ s[k].toNat ≤ 102))) => Plain.all_no s k hlt (by rw [← Bool.not_eq_true, Plain.hexc_iff]; exact h)
        rcases (show ((s[k].toNat : Int) < 48) ∨ ((48 : Int) ≤ s[k].toNat ∧ (s[k].toNat : Int) ≤ 57) ∨ ((57 : Int) < s[k].toNat ∧ (s[k].toNat : Int) < 97) ∨ ((97 : Int) ≤ s[k].toNat ∧ (s[k].toNat : Int) ≤ 102) ∨ ((102 : Int) < s[k].toNat) from by omega) with h1 | ⟨h1, h2⟩ | ⟨h1, h2⟩ | ⟨h1, h2⟩ | h1
        · go_wp2
          go_ret
          exact ⟨ret_bool (HT.out.trans (HN.out (by omega))).symm, rfl⟩
        · go_wp2
          go_round
          case rel => exact ⟨k + 1, by omega, by go_num, Plain.all_snoc s k hlt HS.out (HY.out (by omega))⟩
          case measure => simp [intOf]; omega
        · have d57 : decide ((s[k].toNat : Int) ≤ 57) = false := by simp; omega
          go_wp2
          go_ret
          exact ⟨ret_bool (HT.out.trans (HN.out (by omega))).symm, rfl⟩
        · have d57 : decide ((s[k].toNat : Int) ≤ 57) = false := by simp; omega
          go_wp2
          go_round
          case rel => exact ⟨k + 1, by omega, by go_num, Plain.all_snoc s k hlt HS.out (HY.out (by omega))⟩
          case measure => simp [intOf]; omega
        · have d57 : decide ((s[k].toNat : Int) ≤ 57) = false := by simp; omega
          have d102 : decide ((s[k].toNat : Int) ≤ 102) = false := by simp; omega
          go_wp2
          go_ret
          exact ⟨ret_bool (HT.out.trans (HN.out (by omega))).symm, rfl⟩
      · go_wp2
        go_ret
        exact ⟨ret_bool (HT.out.trans (Plain.all_end s k (by omega) HS.out)).symm, rfl⟩
  · have HT := hide (Plain.tok_len h40)
    have hb : ((s.size : Int) != 40) = true := by rw [bne_iff_ne]; omega
    clear h40
    go_enter Try.func6, Try.ntmps6
    go_wp2
    go_ret
    exact ⟨ret_bool HT.out.symm, rfl⟩

end Go.Proofs.Qxb6628938a
