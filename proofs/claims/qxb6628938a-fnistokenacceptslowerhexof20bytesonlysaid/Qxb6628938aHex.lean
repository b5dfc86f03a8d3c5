/- zzLowerHex (function 10): twice as many bytes, each a lower-case hex digit, in a block of the call's own. -/
import Derived.Test.Qxb6628938aMem
import Derived.Test.Qxb6628938aStr
namespace Go.Proofs.Qxb6628938a
open Go.RowKit
open Plain (hexc hexS tok)

def hexv (z : Int) : Prop := (48 ≤ z ∧ z ≤ 57) ∨ (97 ≤ z ∧ z ≤ 102)

/-- a slice's elements lie in memory: the numbers zs, each a byte -/
def Row (w : World) (a : Option Addr) (zs : List Int) : Prop :=
  (∀ n ∈ zs, 0 ≤ n ∧ n ≤ 255) ∧ (zs ≠ [] → ∃ b off, a = some ⟨b, off, none⟩ ∧ ∀ i, i < zs.length → w.cell? ⟨b, off + i, none⟩ = some (.int .u8 (zs.getD i 0)))

theorem hexv_dig {n : Nat} (h : n < 16) : hexv (dig n : Int) := by
  unfold hexv dig
  split <;> omega

theorem hex_set {es : List Int} {n k : Nat} {d0 d1 : Int} (hl : es.length = n) (hk : 2 * k + 1 < n) (h : ∀ i, i < 2 * k → hexv (es.getD i 0)) (h0 : hexv d0) (h1 : hexv d1) :
    ((es.set (2 * k) d0).set (2 * k + 1) d1).length = n ∧ ∀ i, i < 2 * (k + 1) → hexv (((es.set (2 * k) d0).set (2 * k + 1) d1).getD i 0) := by
  refine ⟨by simpa using hl, fun i hi => ?_⟩
  by_cases e1 : i = 2 * k + 1
  · subst e1
    simpa [List.getD, hl, hk] using h1
  · by_cases e0 : i = 2 * k
    · subst e0
      simpa [List.getD, List.getElem?_set, hl, show 2 * k < n by omega] using h0
    · have := h i (by omega)
      simpa [List.getD, List.getElem?_set, show ¬ 2 * k + 1 = i by omega, show ¬ 2 * k = i by omega] using this

set_option maxHeartbeats 400000 in
theorem lowerHex_empty (a : Option Addr) (ca : Nat) (w : World) :
    Calls Try.prog 10 #[.slice a 0 ca] w fun e w' => e = .returned (.slice (some ⟨w.heap.size, 0, none⟩) 0 0) ∧ Blk w.heap.size [] w' ∧ Below w.heap.size w w' := by
  have hmk : ∀ w, (Instr.makeSlice 25 (.int .i64 0) (.int .i64 0)).run Try.prog w = .ok (.slice (some ⟨w.heap.size, 0, none⟩) 0 0) (w.alloc (.cells (madeCells #[.int .u8 0] 0) 5)) := fun w => mk_run 0 (by omega) w
  have HB := hide (Blk.made w 0)
  go_enter Try.func10, Try.ntmps10
  go_wp2
  refine wp_loop_rounds 1 ?_
  rw [rounds_succ]
  go_wp2
  go_ret
  exact ⟨rfl, HB.out, (Below.refl _ _).alloc (Nat.le_refl _) _⟩

set_option maxHeartbeats 400000 in
theorem lowerHex_full (b off la ca : Nat) (zs : List Int) (w : World) (hl : zs.length = la) (hle : la ≤ 65536) (hr : ∀ i, 0 ≤ zs.getD i 0 ∧ zs.getD i 0 ≤ 255)
    (hx : ∀ i, i < la → w.cell? ⟨b, off + i, none⟩ = some (.int .u8 (zs.getD i 0))) :
    Calls Try.prog 10 #[.slice (some ⟨b, off, none⟩) la ca] w fun e w' => ∃ es : List Int, e = .returned (.slice (some ⟨w.heap.size, 0, none⟩) (2 * la) (2 * la)) ∧ es.length = 2 * la ∧ (∀ i, i < 2 * la → hexv (es.getD i 0)) ∧ Blk w.heap.size es w' ∧ Below w.heap.size w w' := by
  have hmk := mk_run (2 * la) (by omega)
  rw [show (((2 * la : Nat)) : Int) = 2 * (la : Int) from by omega] at hmk
  have HL := hide hl
  have HX := hide hx
  have HR := hide hr
  clear hl hx hr
  have hdg := dig_get
  go_enter Try.func10, Try.ntmps10
  go_wp2
  go_loopw [4] (fun i wr => ∃ (k : Nat) (es : List Int), k ≤ la ∧ i = .int .i64 k ∧ Hid (es.length = 2 * la) ∧ Hid (∀ i, i < 2 * k → hexv (es.getD i 0)) ∧ Blk w.heap.size es wr ∧ Below w.heap.size w wr) (fun i _ => la - (intOf i).toNat)
  case atStart => exact ⟨0, _, Nat.zero_le _, rfl, List.length_replicate, fun i hi => absurd hi (Nat.not_lt_zero i), Blk.made w _, (Below.refl _ _).alloc (Nat.le_refl _) _⟩
  case round =>
    obtain ⟨k, es, hk, rfl, hl, hz, hblk, hb⟩ := hrel
    by_cases hlt : k < la
    · have hc : wr.cell? ⟨b, off + k, none⟩ = some (.int .u8 (zs.getD k 0)) := (hb.cell (World.block_lt_of_cell? _ _ (HX.out k hlt))).trans (HX.out k hlt)
      have hbl : b < w.heap.size := World.block_lt_of_cell? _ _ (HX.out k hlt)
      obtain ⟨r0, r1⟩ := HR.out k
      generalize zs.getD k 0 = z at hc r0 r1
      have hc0 := hblk.cell (i := 2 * k) (by rw [hl.out]; omega)
      have hf0 := hblk.frozen (2 * k)
      have hc1 := hblk.cell (i := 2 * k + 1) (by rw [hl.out]; omega)
      have hf1 := hblk.frozen (2 * k + 1)
      have hlt' : (k : Int) < (la : Int) := by omega
      have HS := hide (hex_set hl.out (by omega) hz.out (hexv_dig (n := (z / 16).toNat) (by omega)) (hexv_dig (n := (z % 16).toNat) (by omega)))
      go_wp2
      go_roundw
      case rel => exact ⟨k + 1, _, by omega, by go_num, HS.out.1, HS.out.2, (hblk.put _ _).put _ _, (hb.setCell (Nat.le_refl _) _).setCell (Nat.le_refl _) _⟩
      case measure => simp [intOf]; omega
    · go_wp2
      go_ret
      exact ⟨es, rfl, hl.out, fun i hi => hz.out i (by omega), hblk, hb⟩

theorem lowerHex (a : Option Addr) (la ca : Nat) (zs : List Int) (w : World) (hl : zs.length = la) (hle : la ≤ 65536) (hr : Row w a zs) :
    Calls Try.prog 10 #[.slice a la ca] w fun e w' => ∃ es : List Int, e = .returned (.slice (some ⟨w.heap.size, 0, none⟩) (2 * la) (2 * la)) ∧ es.length = 2 * la ∧ (∀ i, i < 2 * la → hexv (es.getD i 0)) ∧ Blk w.heap.size es w' ∧ Below w.heap.size w w' := by
  by_cases h : zs = []
  · subst h
    simp at hl
    subst hl
    refine (lowerHex_empty a ca w).mono ?_
    rintro e w' ⟨rfl, h1, h2⟩
    exact ⟨[], rfl, rfl, fun i hi => absurd hi (Nat.not_lt_zero i), h1, h2⟩
  · obtain ⟨b, off, rfl, hc⟩ := hr.2 h
    refine lowerHex_full b off la ca zs w hl hle (fun i => ?_) (fun i hi => hc i (by omega))
    by_cases hi : i < zs.length
    · have := hr.1 zs[i] (List.getElem_mem hi)
      rw [List.getD, List.getElem?_eq_getElem hi]
      simpa using this
    · rw [List.getD, List.getElem?_eq_none (by omega)]
      simp

/-! ### what a token says of such a row -/
theorem hexc_of {z : Int} (h : hexv z) : hexc (UInt8.ofNat z.toNat) = true := by
  rw [Plain.hexc_iff]
  unfold hexv at h
  have e : (UInt8.ofNat z.toNat).toNat = z.toNat := by simp; omega
  rw [e]; omega

theorem hexc_not {z : Int} (h0 : 65 ≤ z) (h1 : z ≤ 70) : hexc (UInt8.ofNat z.toNat) = false := by
  rw [← Bool.not_eq_true, Plain.hexc_iff]
  have e : (UInt8.ofNat z.toNat).toNat = z.toNat := by simp; omega
  rw [e]; omega

theorem tok_hex {es : List Int} {n : Nat} (hl : es.length = n) (h : ∀ i, i < n → hexv (es.getD i 0)) : tok (strOfNums es).data.toList = decide (n = 40) := by
  unfold tok
  rw [strOfNums_data]
  have : (es.map fun n => UInt8.ofNat n.toNat).all hexc = true := by
    rw [List.all_eq_true]
    intro c hc
    obtain ⟨z, hz, rfl⟩ := List.mem_map.1 hc
    obtain ⟨i, hi, rfl⟩ := List.getElem_of_mem hz
    have := h i (by omega)
    rw [List.getD, List.getElem?_eq_getElem hi] at this
    exact hexc_of this
  rw [this]
  simp [hl]

theorem tok_upper {es : List Int} {i : Nat} {d : Int} (hi : i < es.length) (h0 : 65 ≤ d) (h1 : d ≤ 70) : tok (strOfNums (es.set i d)).data.toList = false := by
  unfold tok
  rw [strOfNums_data]
  have : ((es.set i d).map fun n => UInt8.ofNat n.toNat).all hexc = false := by
    rw [← Bool.not_eq_true, List.all_eq_true]
    intro hall
    have hm : d ∈ es.set i d := List.mem_set hi d
    have := hall _ (List.mem_map.2 ⟨d, hm, rfl⟩)
    rw [hexc_not h0 h1] at this
    exact absurd this (by simp)
  rw [this]
  simp

end Go.Proofs.Qxb6628938a
