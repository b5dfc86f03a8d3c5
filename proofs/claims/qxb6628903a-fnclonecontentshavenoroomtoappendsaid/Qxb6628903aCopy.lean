/- zzBytes (function 20), zzStrings (function 13): fresh copies. -/
import Derived.Test.Qxb6628903aMem
namespace Go.Proofs.Qxb6628903a
open Go.RowKit

/-- block B holds the values vs, not frozen -/
structure VB (T : TypeId) (B : Nat) (vs : List Value) (w : World) : Prop where
  heap : w.heap[B]? = some (.cells vs.toArray T (0, 0))

theorem VB.cell {T : TypeId} {B : Nat} {vs : List Value} {w : World} (h : VB T B vs w) {i : Nat} {v : Value} (hi : vs[i]? = some v) : w.cell? ⟨B, i, none⟩ = some v := by
  rw [cell_of_row w B i _ T (0, 0) h.heap]
  simpa using hi

theorem VB.frozen {T : TypeId} {B : Nat} {vs : List Value} {w : World} (h : VB T B vs w) (i : Nat) : w.frozen? ⟨B, i, none⟩ = false :=
  frozen_of_row w B i _ T h.heap

theorem VB.put {T : TypeId} {B : Nat} {vs : List Value} {w : World} (h : VB T B vs w) (j : Nat) (v : Value) : VB T B (vs.set j v) (w.setCell ⟨B, j, none⟩ v) := by
  refine ⟨?_⟩
  rw [heap_setCell_same w B j _ T _ h.heap]
  congr 2
  apply Array.ext'
  simp

theorem VB.other {T : TypeId} {B C : Nat} {vs : List Value} {w : World} (h : VB T B vs w) (j : Nat) (v : Value) (hne : B ≠ C) : VB T B vs (w.setCell ⟨C, j, none⟩ v) := by
  refine ⟨?_⟩
  rw [heap_setCell_other _ _ _ _ hne]
  exact h.heap

theorem VB.lt {T : TypeId} {B : Nat} {vs : List Value} {w : World} (h : VB T B vs w) : B < w.heap.size := by
  rcases Nat.lt_or_ge B w.heap.size with hlt | hge
  · exact hlt
  · have := h.heap
    rw [Array.getElem?_eq_none hge] at this; cases this

theorem VB.below {T : TypeId} {B K : Nat} {vs : List Value} {w w' : World} (h : VB T B vs w) (hb : Below K w w') (hK : B < K) : VB T B vs w' := by
  refine ⟨?_⟩
  rw [hb.block B hK]
  exact h.heap

theorem VB.on {T : TypeId} {B : Nat} {vs : List Value} {w w' : World} (h : VB T B vs w) (hb : Below w.heap.size w w') : VB T B vs w' := h.below hb h.lt

theorem made_rep (z : Value) (n : Nat) : madeCells #[z] n = (List.replicate n z).toArray := by
  apply Array.ext
  · rw [size_madeCells]; simp
  · intro i h1 h2
    simp [madeCells, Nat.mod_one]

theorem VB.made (w : World) (T : TypeId) (z : Value) (n : Nat) : VB T w.heap.size (List.replicate n z) (w.alloc (.cells (madeCells #[z] n) T)) := by
  refine ⟨?_⟩
  rw [heap_alloc_new, made_rep]

theorem VB.new (w : World) (T : TypeId) (vs : List Value) : VB T w.heap.size vs (w.alloc (.cells vs.toArray T)) := ⟨by rw [heap_alloc_new]⟩

theorem Bytes.far {w : World} {a : Option Addr} {n : Nat} {nil : Bool} {bs : List Int} (h : Bytes w a n nil bs) {B : Nat} (hne : ∀ x, a = some x → x.block ≠ B) (j : Nat) (v : Value) : Bytes (w.setCell ⟨B, j, none⟩ v) a n nil bs := by
  refine ⟨h.1, h.2.1, fun hx => ?_⟩
  obtain ⟨b, off, rfl, hc⟩ := h.2.2 hx
  refine ⟨b, off, rfl, fun i hi => ?_⟩
  rw [World.cell?_setCell_other _ _ _ _ (fun e => hne _ rfl (by rw [← (Addr.mk.inj e).1]))]
  exact hc i hi

/-- a store into a block that holds no bytes turns no byte -/
theorem Bytes.kind {w : World} {a : Option Addr} {n : Nat} {nil : Bool} {bs : List Int} (h : Bytes w a n nil bs) {T : TypeId} {B : Nat} {vs : List Value} (hv : VB T B vs w) (hk : ∀ z, Value.int .u8 z ∉ vs) (j : Nat) (v : Value) : Bytes (w.setCell ⟨B, j, none⟩ v) a n nil bs := by
  refine ⟨h.1, h.2.1, fun hx => ?_⟩
  obtain ⟨b, off, rfl, hc⟩ := h.2.2 hx
  refine ⟨b, off, rfl, fun i hi => ?_⟩
  have hne : b ≠ B := by
    intro e
    subst e
    have h1 := hc i hi
    rw [cell_of_row w b (off + i) _ T (0, 0) hv.heap] at h1
    have h2 : vs[off + i]? = some (.int .u8 (bs.getD i 0)) := by simpa using h1
    exact hk _ (List.mem_of_getElem? h2)
  rw [World.cell?_setCell_other _ _ _ _ (fun e => hne (by rw [← (Addr.mk.inj e).1]))]
  exact hc i hi

theorem copy_put {vs : List Value} {n k : Nat} {f : Nat → Value} (hl : vs.length = n) (hk : k < n) (h : ∀ i, i < k → vs[i]? = some (f i)) :
    (vs.set k (f k)).length = n ∧ ∀ i, i < k + 1 → (vs.set k (f k))[i]? = some (f i) := by
  refine ⟨by simpa using hl, fun i hi => ?_⟩
  by_cases e : i = k
  · subst e; simp [hl, hk]
  · rw [List.getElem?_set_ne (by omega)]
    exact h i (by omega)

theorem info5 : (Try.prog.info? 5).map (fun i => (i.zero, i.size, i.bytes)) = some (some (.int .u8 0), 1, 1) := by kernel_rfl
theorem info9 : (Try.prog.info? 9).map (fun i => (i.zero, i.size, i.bytes)) = some (some (.string ByteArray.empty), 1, 16) := by kernel_rfl

theorem mk35 (n : Nat) (hn : n ≤ 1048576) (w : World) :
    (Instr.makeSlice 35 (.int .i64 (n : Int)) (.int .i64 (n : Int))).run Try.prog w = .ok (.slice (some ⟨w.heap.size, 0, none⟩) n n) (w.alloc (.cells (madeCells #[.int .u8 0] n) 5)) :=
  run_make_row' 35 5 (.int .u8 0) 1 Try.underlying35 info5 rfl .i64 .i64 n (by omega) (by omega) w

theorem mk22 (n : Nat) (hn : n ≤ 1048576) (w : World) :
    (Instr.makeSlice 22 (.int .i64 (n : Int)) (.int .i64 (n : Int))).run Try.prog w = .ok (.slice (some ⟨w.heap.size, 0, none⟩) n n) (w.alloc (.cells (madeCells #[.string ByteArray.empty] n) 9)) :=
  run_make_row' 22 9 (.string ByteArray.empty) 16 Try.underlying22 info9 rfl .i64 .i64 n (by omega) (by omega) w

set_option maxHeartbeats 1000000 in
theorem copyBytes (a : Option Addr) (n c : Nat) (nil : Bool) (bs : List Int) (w : World) (hn : n ≤ 1048576) (h : Bytes w a n nil bs) :
    Calls Try.prog 20 #[.slice a n c] w fun e w' => ∃ a' c', e = .returned (.slice a' n c') ∧ Bytes w' a' n nil bs ∧ (∀ x, a' = some x → w.heap.size ≤ x.block) ∧ (a' = none → c' = 0) ∧ Below w.heap.size w w' := by
  have hq := nil35
  cases a with
  | none =>
    have HH := hide h
    have hn0 : n = 0 := by
      have := h.2.1
      rcases Nat.eq_zero_or_pos n with e | e
      · exact e
      · obtain ⟨b, off, hx, _⟩ := h.2.2 (by intro hx; rw [hx] at this; simp at this; omega)
        cases hx
    subst hn0
    clear h
    go_enter Try.func20, Try.ntmps20
    go_wp2
    go_ret
    exact ⟨_, _, rfl, HH.out, (fun x hx => by cases hx), (fun _ => rfl), Below.refl _ _⟩
  | some x =>
    have HH := hide h
    have hmk := mk35 n hn
    clear h
    go_enter Try.func20, Try.ntmps20
    go_wp2
    go_loopw [4] (fun i wr => ∃ (k : Nat) (vs : List Value), k ≤ n ∧ i = .int .i64 k ∧ Hid (vs.length = n) ∧ Hid (∀ i, i < k → vs[i]? = some (.int .u8 (bs.getD i 0))) ∧ VB 5 w.heap.size vs wr ∧ Below w.heap.size w wr) (fun i _ => n - (intOf i).toNat)
    case atStart => exact ⟨0, _, Nat.zero_le _, rfl, List.length_replicate, fun i hi => absurd hi (Nat.not_lt_zero i), VB.made w _ _ _, (Below.refl _ _).alloc (Nat.le_refl _) _⟩
    case round =>
      obtain ⟨k, vs, hk, rfl, hl, hz, hblk, hb⟩ := hrel
      by_cases hlt : k < n
      · have hlt' : (k : Int) < (n : Int) := by omega
        obtain ⟨b, off, hxx, hc⟩ := HH.out.2.2 (by intro h; have := HH.out.2.1; rw [h] at this; simp at this; omega)
        obtain rfl : x = ⟨b, off, none⟩ := Option.some.inj hxx
        have hck := hc k (by rw [HH.out.2.1]; exact hlt)
        have hbl : b < w.heap.size := World.block_lt_of_cell? _ _ hck
        have ck := cell_on hb hck
        have hv : vs[k]? = some (vs[k]'(by rw [hl.out]; exact hlt)) := List.getElem?_eq_getElem _
        have cv := hblk.cell hv
        have fv := hblk.frozen k
        have HP := hide (copy_put (f := fun i => .int .u8 (bs.getD i 0)) hl.out hlt hz.out)
        have HV := hide (hblk.put k (.int .u8 (bs.getD k 0)))
        clear hc hck hv hxx hblk
        generalize bs.getD k 0 = z at ck HP HV
        go_wp2
        go_roundw
        case rel => exact ⟨k + 1, _, by omega, by go_num, HP.out.1, HP.out.2, HV.out, hb.setCell (Nat.le_refl _) _⟩
        case measure => simp [intOf]; omega
      · have HB := hide hb
        have HV := hide hblk
        clear hb hblk
        go_wp2
        go_ret
        exact ⟨_, _, rfl, ⟨HH.out.1, HH.out.2.1, fun _ => ⟨w.heap.size, 0, rfl, fun i hi => by rw [Nat.zero_add]; exact HV.out.cell (hz.out i (by rw [HH.out.2.1] at hi; omega))⟩⟩, (fun x hx => by cases hx; exact Nat.le_refl _), (fun hx => by cases hx), HB.out⟩

set_option maxHeartbeats 1000000 in
theorem copyStrs (a : Option Addr) (n c : Nat) (nil : Bool) (ss : List ByteArray) (w : World) (hn : n ≤ 1048576) (h : Strs w a n nil ss) :
    Calls Try.prog 13 #[.slice a n c] w fun e w' => ∃ a' c', e = .returned (.slice a' n c') ∧ Strs w' a' n nil ss ∧ Below w.heap.size w w' := by
  have hq := nil22
  cases a with
  | none =>
    have HH := hide h
    have hn0 : n = 0 := by
      have := h.2.1
      rcases Nat.eq_zero_or_pos n with e | e
      · exact e
      · obtain ⟨b, off, hx, _⟩ := h.2.2 (by intro hx; rw [hx] at this; simp at this; omega)
        cases hx
    subst hn0
    clear h
    go_enter Try.func13, Try.ntmps13
    go_wp2
    go_ret
    exact ⟨_, _, rfl, HH.out, Below.refl _ _⟩
  | some x =>
    have HH := hide h
    have hmk := mk22 n hn
    clear h
    go_enter Try.func13, Try.ntmps13
    go_wp2
    go_loopw [4] (fun i wr => ∃ (k : Nat) (vs : List Value), k ≤ n ∧ i = .int .i64 k ∧ Hid (vs.length = n) ∧ Hid (∀ i, i < k → vs[i]? = some (.string (ss.getD i ByteArray.empty))) ∧ Hid (∀ i, i < n → ∃ s, vs[i]? = some (.string s)) ∧ VB 9 w.heap.size vs wr ∧ Below w.heap.size w wr) (fun i _ => n - (intOf i).toNat)
    case atStart => exact ⟨0, _, Nat.zero_le _, rfl, List.length_replicate, fun i hi => absurd hi (Nat.not_lt_zero i), fun i hi => ⟨ByteArray.empty, by simp [hi]⟩, VB.made w _ _ _, (Below.refl _ _).alloc (Nat.le_refl _) _⟩
    case round =>
      obtain ⟨k, vs, hk, rfl, hl, hz, hstr, hblk, hb⟩ := hrel
      by_cases hlt : k < n
      · have hlt' : (k : Int) < (n : Int) := by omega
        obtain ⟨b, off, hxx, hc⟩ := HH.out.2.2 (by intro h; have := HH.out.2.1; rw [h] at this; simp at this; omega)
        obtain rfl : x = ⟨b, off, none⟩ := Option.some.inj hxx
        have hck := hc k (by rw [HH.out.2.1]; exact hlt)
        have hbl : b < w.heap.size := World.block_lt_of_cell? _ _ hck
        have ck := cell_on hb hck
        obtain ⟨s0, hv⟩ := hstr.out k hlt
        have cv := hblk.cell hv
        have fv := hblk.frozen k
        have HP := hide (copy_put (f := fun i => .string (ss.getD i ByteArray.empty)) hl.out hlt hz.out)
        have HV := hide (hblk.put k (.string (ss.getD k ByteArray.empty)))
        have HT : Hid (∀ i, i < n → ∃ s, (vs.set k (.string (ss.getD k ByteArray.empty)))[i]? = some (.string s)) := fun i hi => by
          by_cases e : i = k
          · subst e; exact ⟨_, List.getElem?_set_self (by rw [hl.out]; exact hlt)⟩
          · obtain ⟨s, hs⟩ := hstr.out i hi
            exact ⟨s, by rw [List.getElem?_set_ne (by omega)]; exact hs⟩
        clear hc hck hv hxx hblk hstr
        generalize ss.getD k ByteArray.empty = z at ck HP HV HT
        go_wp2
        go_roundw
        case rel => exact ⟨k + 1, _, by omega, by go_num, HP.out.1, HP.out.2, HT, HV.out, hb.setCell (Nat.le_refl _) _⟩
        case measure => simp [intOf]; omega
      · have HB := hide hb
        have HV := hide hblk
        clear hb hblk
        go_wp2
        go_ret
        exact ⟨_, _, rfl, ⟨HH.out.1, HH.out.2.1, fun _ => ⟨w.heap.size, 0, rfl, fun i hi => by rw [Nat.zero_add]; exact HV.out.cell (hz.out i (by rw [HH.out.2.1] at hi; omega))⟩⟩, HB.out⟩

end Go.Proofs.Qxb6628903a
