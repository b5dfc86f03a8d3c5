/- The closure of Clone (function 15): a content is put behind the others, in one block. -/
import Derived.Test.Qxb6628903aDone
import Derived.Test.Qxb6628903aTooBig
namespace Go.Proofs.Qxb6628903a
open Go.RowKit

/-- the block of contents: cs lies at its head; it has room for S bytes -/
def Buf (C S : Nat) (cs : List Int) (w : World) : Prop := w.ownsRow C 5 1 (.slice (some ⟨C, 0, none⟩) cs.length S) cs.length (cs.map (Value.int .u8))

theorem Buf.row {C S : Nat} {cs : List Int} {w : World} (h : Buf C S cs w) : ∃ cur, w.heap[C]? = some (.cells cur 5 (0, 0)) ∧ cur.toList.take cs.length = cs.map (Value.int .u8) := by
  rcases h.2 with ⟨hv, _⟩ | ⟨g, cap, cur, hv, _, hh, _, _, _, ht⟩
  · cases hv
  · cases hv
    exact ⟨cur, hh, by simpa using ht⟩

theorem Buf.cell {C S : Nat} {cs : List Int} {w : World} (h : Buf C S cs w) {i : Nat} {z : Int} (hi : cs[i]? = some z) : w.cell? ⟨C, i, none⟩ = some (.int .u8 z) ∧ w.frozen? ⟨C, i, none⟩ = false := by
  obtain ⟨cur, hh, ht⟩ := h.row
  have hl : i < cs.length := (List.getElem?_eq_some_iff.1 hi).1
  have h1 : (cur.toList.take cs.length)[i]? = (cs.map (Value.int .u8))[i]? := by rw [ht]
  rw [List.getElem?_take_of_lt hl, List.getElem?_map, hi] at h1
  refine ⟨?_, frozen_of_row w C i _ 5 hh⟩
  rw [cell_of_row w C i cur 5 (0, 0) hh]
  simpa using h1

theorem Buf.keep {C S : Nat} {cs : List Int} {w w' : World} (h : Buf C S cs w) (hh : w'.heap[C]? = w.heap[C]?) : Buf C S cs w' := by
  refine ⟨h.1, ?_⟩
  rcases h.2 with ⟨hv, _⟩ | ⟨g, cap, cur, hv, hb, hg, rest⟩
  · cases hv
  · cases hv
    exact .inr ⟨C, S, cur, rfl, hb, hh.trans hg, rest⟩

theorem Buf.lt {C S : Nat} {cs : List Int} {w : World} (h : Buf C S cs w) : C < w.heap.size := by
  obtain ⟨cur, hh, _⟩ := h.row
  rcases Nat.lt_or_ge C w.heap.size with hlt | hge
  · exact hlt
  · rw [Array.getElem?_eq_none hge] at hh; cases hh

/-- all but the blocks V and C stays; new blocks may come -/
structure But (V C : Nat) (w w' : World) : Prop where
  os : w'.os = w.os
  tape : w'.tape = w.tape
  output : w'.output = w.output
  size : w.heap.size ≤ w'.heap.size
  block : ∀ k, k < w.heap.size → k ≠ V → k ≠ C → w'.heap[k]? = w.heap[k]?

theorem But.trans {V C : Nat} {a b c : World} (h : But V C a b) (k : But V C b c) : But V C a c :=
  ⟨k.os.trans h.os, k.tape.trans h.tape, k.output.trans h.output, Nat.le_trans h.size k.size, fun i hi h1 h2 => (k.block i (Nat.lt_of_lt_of_le hi h.size) h1 h2).trans (h.block i hi h1 h2)⟩

theorem But.of {V C : Nat} {w w' : World} (h : Below w.heap.size w w') : But V C w w' := ⟨h.os, h.tape, h.output, h.size, fun i hi _ _ => h.block i hi⟩
theorem But.row {V C : Nat} {w w' : World} (h : w.grownBy w' (some C)) : But V C w w' := ⟨h.os, h.tape, h.output, h.size, fun i hi _ h2 => h.block i hi (by simpa using h2)⟩
theorem But.set {V C : Nat} (w : World) (j : Nat) (v : Value) : But V C w (w.setCell ⟨V, j, none⟩ v) := by
  have h := (Below.refl V w).setCell (p := ⟨V, j, none⟩) (Nat.le_refl _) v
  exact ⟨h.os, h.tape, h.output, h.size, fun i _ h1 _ => heap_setCell_other _ _ _ _ h1⟩
theorem But.below {V C K : Nat} {w w' : World} (h : But V C w w') (h1 : K ≤ V) (h2 : K ≤ C) (h3 : K ≤ w.heap.size) : Below K w w' :=
  ⟨h.os, h.tape, h.output, h.size, fun i hi => h.block i (by omega) (by omega) (by omega)⟩
theorem VB.but {T : TypeId} {B V C : Nat} {vs : List Value} {w w' : World} (h : VB T B vs w) (hb : But V C w w') (h1 : B ≠ V) (h2 : B ≠ C) : VB T B vs w' :=
  ⟨(hb.block B h.lt h1 h2).trans h.heap⟩

theorem But.new {V C : Nat} {a w : World} (h : But V C a w) {B : Nat} (hB : a.heap.size ≤ B) (j : Nat) (v : Value) : But V C a (w.setCell ⟨B, j, none⟩ v) := by
  have k := (Below.refl B w).setCell (p := ⟨B, j, none⟩) (Nat.le_refl _) v
  exact ⟨k.os.trans h.os, k.tape.trans h.tape, k.output.trans h.output, Nat.le_trans h.size k.size, fun i hi h1 h2 => (heap_setCell_other _ _ _ _ (by dsimp only; omega)).trans (h.block i hi h1 h2)⟩

theorem VB.keepBlock {T : TypeId} {B : Nat} {vs : List Value} {w w' : World} (h : VB T B vs w) (hh : w'.heap[B]? = w.heap[B]?) : VB T B vs w' := ⟨hh.trans h.heap⟩

/-- a content that is a piece of the block of contents -/
def Piece (C : Nat) (cs : List Int) (f : Flat) (a : Option Addr) : Prop :=
  a.isNone = f.nil ∧ (a = none → f.bs = []) ∧ ∀ x, a = some x → ∃ o, x = ⟨C, o, none⟩ ∧ ∀ i z, f.bs[i]? = some z → cs[o + i]? = some z

theorem Piece.more {C : Nat} {cs : List Int} {f : Flat} {a : Option Addr} (h : Piece C cs f a) (ds : List Int) : Piece C (cs ++ ds) f a := by
  refine ⟨h.1, h.2.1, fun x hx => ?_⟩
  obtain ⟨o, h1, h2⟩ := h.2.2 x hx
  refine ⟨o, h1, fun i z hi => ?_⟩
  have := h2 i z hi
  rw [List.getElem?_append_left (List.getElem?_eq_some_iff.1 this).1]
  exact this

theorem Piece.bytes {C S : Nat} {cs : List Int} {f : Flat} {a : Option Addr} {w : World} (h : Piece C cs f a) (hb : Buf C S cs w) : Bytes w a f.bs.length f.nil f.bs := by
  refine ⟨h.1, rfl, fun hne => ?_⟩
  cases a with
  | none => exact absurd (h.2.1 rfl) hne
  | some x =>
    obtain ⟨o, rfl, h2⟩ := h.2.2 x rfl
    refine ⟨C, o, rfl, fun i hi => (hb.cell (h2 i _ ?_)).1⟩
    simp [List.getD, List.getElem?_eq_getElem hi]

theorem Piece.new {C : Nat} {cs : List Int} {f : Flat} (hf : f.nil = false) {x : Addr} (hx : x = ⟨C, if cs.length + f.bs.length = cs.length then 0 else cs.length, none⟩) : Piece C (cs ++ f.bs) f (some x) := by
  refine ⟨hf.symm, (fun h => by cases h), fun y hy => ?_⟩
  cases hy
  refine ⟨_, hx, fun i z hi => ?_⟩
  have hl : i < f.bs.length := (List.getElem?_eq_some_iff.1 hi).1
  rw [if_neg (by omega), List.getElem?_append_right (by omega)]
  simpa using hi

theorem Piece.nil {C : Nat} {cs : List Int} {f : Flat} (hf : f.nil = true) (hb : f.bs = []) : Piece C cs f none := ⟨hf.symm, fun _ => hb, fun x hx => by cases hx⟩

theorem bytes_none {w : World} {n : Nat} {nil : Bool} {bs : List Int} (h : Bytes w none n nil bs) : nil = true ∧ bs = [] ∧ n = 0 := by
  have e : bs = [] := by
    by_cases hx : bs = []
    · exact hx
    · obtain ⟨b, off, h1, _⟩ := h.2.2 hx
      cases h1
  refine ⟨h.1.symm, e, ?_⟩
  rw [← h.2.1, e]; rfl

theorem cell_but {V C : Nat} {w w' : World} (h : But V C w w') {a : Addr} {v : Value} (hc : w.cell? a = some v) (h1 : a.block ≠ V) (h2 : a.block ≠ C) : w'.cell? a = some v := by
  rw [World.cell?_of_block (w := w) (h.block a.block (World.block_lt_of_cell? _ _ hc) h1 h2)]
  exact hc

theorem laidBox (w : World) (xs : List Value) :
    VB 37 w.heap.size xs ((w.alloc (.cells xs.toArray 37)).alloc (.cells zero37.toArray 37)) ∧ VB 37 (w.heap.size + 1) zero37 ((w.alloc (.cells xs.toArray 37)).alloc (.cells zero37.toArray 37)) := laid2 w xs zero37 37 37

def ClosPost (V C S n : Nat) (cs : List Int) (f : Flat) (p : Option Addr) (w : World) (e : Ending) (w' : World) : Prop :=
  ∃ a', e = .returned (.agg #[.string f.s0, .string f.s1, .string f.s2, .slice a' n n, .pointer p]) ∧ Piece C (cs ++ f.bs) f a' ∧ Buf C S (cs ++ f.bs) w' ∧ VB 35 V [.slice (some ⟨C, 0, none⟩) (cs ++ f.bs).length S] w' ∧ But V C w w'

set_option maxHeartbeats 2000000 in
theorem clos_nil (V C S : Nat) (cs : List Int) (f : Flat) (n : Nat) (p : Option Addr) (w : World) (hB : Bytes w none n f.nil f.bs) (hV : VB 35 V [.slice (some ⟨C, 0, none⟩) cs.length S] w) (hC : Buf C S cs w) :
    Calls Try.prog 15 #[.agg #[.string f.s0, .string f.s1, .string f.s2, .slice none n 0, .pointer p], .pointer (some ⟨V, 0, none⟩)] w (ClosPost V C S n cs f p w) := by
  obtain ⟨e1, e2, rfl⟩ := bytes_none hB
  have P0 : Hid (Piece C (cs ++ f.bs) f none) := Piece.nil e1 e2
  have hq := not35
  have E2 := hide e2
  have HV := hide hV
  have HC := hide hC
  clear hV hC hB e1 e2
  generalize hs0 : f.s0 = s0
  generalize hs1 : f.s1 = s1
  generalize hs2 : f.s2 = s2
  have F0 := hide hs0
  have F1 := hide hs1
  have F2 := hide hs2
  clear hs0 hs1 hs2
  have hb := below2 w (.cells #[.string s0, .string s1, .string s2, .slice none 0 0, .pointer p] 37) (.cells #[.string s0, .string s1, .string s2, .slice none 0 0, .pointer p] 37)
  have V2 := hide (laid2 w [.string s0, .string s1, .string s2, .slice none 0 0, .pointer p] [.string s0, .string s1, .string s2, .slice none 0 0, .pointer p] 37 37).2
  have B5 := hide hb
  clear hb
  go_enter Try.func15, Try.ntmps15
  go_wp2
  exact bodyPost_ret (results_cell_row Try.results15 _ _ (w.heap.size + 1) 37 _ (0, 0) _ rfl V2.out.heap Try.underlying37 rfl info37) rfl ⟨none, by rw [F0.out, F1.out, F2.out], P0.out, by rw [E2.out, List.append_nil]; exact HC.out.keep (B5.out.block _ HC.out.lt), by rw [E2.out, List.append_nil]; exact HV.out.on B5.out, But.of B5.out⟩

set_option maxHeartbeats 2000000 in
theorem clos_some (V C S : Nat) (cs : List Int) (f : Flat) (x : Addr) (n c : Nat) (p : Option Addr) (w : World) (hB : Bytes w (some x) n f.nil f.bs) (hV : VB 35 V [.slice (some ⟨C, 0, none⟩) cs.length S] w) (hC : Buf C S cs w) (hne : V ≠ C) (hfit : cs.length + n ≤ S) (hS : S ≤ 1048576) :
    Calls Try.prog 15 #[.agg #[.string f.s0, .string f.s1, .string f.s2, .slice (some x) n c, .pointer p], .pointer (some ⟨V, 0, none⟩)] w (ClosPost V C S n cs f p w) := by
  have hSS := hS
  obtain ⟨i0, hi, hz0, hz1, hz2⟩ := info_parts info5
  obtain ⟨L, hL⟩ : ∃ L, cs.length = L := ⟨_, rfl⟩
  have hq := not35
  generalize hs0 : f.s0 = s0
  generalize hs1 : f.s1 = s1
  generalize hs2 : f.s2 = s2
  have F0 := hide hs0
  have F1 := hide hs1
  have F2 := hide hs2
  clear hs0 hs1 hs2
  obtain ⟨w1, hW⟩ : ∃ w1, (w.alloc (.cells #[.string s0, .string s1, .string s2, .slice (some x) n c, .pointer p] 37)).alloc (.cells zero37.toArray 37) = w1 := ⟨_, rfl⟩
  have hb := below2 w (.cells #[.string s0, .string s1, .string s2, .slice (some x) n c, .pointer p] 37) (.cells zero37.toArray 37)
  obtain ⟨v1, v2⟩ := laidBox w [.string s0, .string s1, .string s2, .slice (some x) n c, .pointer p]
  rw [show (w.alloc (.cells [.string s0, .string s1, .string s2, .slice (some x) n c, .pointer p].toArray 37)).alloc (.cells zero37.toArray 37) = w1 from hW] at v1 v2
  rw [hW] at hb
  have vV := hV.on hb
  have bC := hC.keep (hb.block _ hC.lt)
  have bB := hB.on hb
  have s1' : w.heap.size + 2 = w1.heap.size := by rw [← hW]; simp
  have hVl := hV.lt
  have hCl := hC.lt
  rw [hL] at vV hfit
  have hown : w1.ownsRow C 5 1 (.slice (some ⟨C, 0, none⟩) L S) L (cs.map (Value.int .u8)) := hL ▸ bC
  have hnews : ∀ j u, (f.bs.map (Value.int .u8))[j]? = some u → w1.cell? (x.add j) = some u := fun j u hj => by
    have hjl : j < f.bs.length := by simpa using (List.getElem?_eq_some_iff.1 hj).1
    obtain ⟨b, off, hx, hc⟩ := bB.2.2 (by intro e; rw [e] at hjl; simp at hjl)
    obtain rfl : x = ⟨b, off, none⟩ := Option.some.inj hx
    have e : (⟨b, off, none⟩ : Addr).add j = ⟨b, off + j, none⟩ := by unfold Addr.add; split <;> simp_all
    rw [e, hc j hjl]
    simp [List.getElem?_eq_getElem hjl] at hj
    simp [List.getD, List.getElem?_eq_getElem hjl, hj]
  have x3 := v1.cell (i := 3) rfl
  have z0 := hV.cell (i := 0) rfl
  rw [hL] at z0
  have HW := hide hW
  have HB := hide hb
  have V1 := hide v1
  have V2 := hide v2
  have VV := hide vV
  have HOWN := hide hown
  have HN := hide hnews
  have HL := hide hL
  have HBB := hide bB
  have HNE := hide hne
  have HFIT := hide hfit
  have HLN : Hid ((f.bs.map (Value.int .u8)).length = n * 1) := by show _ = _; rw [List.length_map, hB.2.1]; omega
  clear hW hb v1 v2 vV hown hnews hL bB bC hB hV hC hne hfit
  go_enter Try.func15, Try.ntmps15
  go_wp2_with (at_builtin; rw [HW.out]; refine wpList_append_fits_any _ rfl _ _ 35 rfl C 5 i0 1 Try.underlying35 hi hz1 C L S (cs.map (Value.int .u8)) rfl HOWN.out (some x) n c (f.bs.map (Value.int .u8)) rfl HLN.out (fun h => by cases h) (fun ad h => by cases h; exact HN.out) ?c1 HFIT.out ?_)
  case c1 => intro u hu; obtain ⟨z, _, rfl⟩ := List.mem_map.1 hu; rfl
  intro w2 hown2 hg
  have bg := But.row (V := V) hg
  have hsz2 := hg.size
  have hneV := HNE.out
  have v1 := V1.out.keepBlock (hg.block _ V1.out.lt (by simp; omega))
  have v2 := V2.out.keepBlock (hg.block _ V2.out.lt (by simp; omega))
  have vV := VV.out.keepBlock (hg.block _ VV.out.lt (by simp; omega))
  have hfit := HFIT.out
  obtain ⟨M, hM⟩ : ∃ M, L + n = M := ⟨_, rfl⟩
  rw [hM] at hown2 hfit ⊢
  have hLM : L ≤ M := by omega
  have d1 : M - L = n := by omega
  have i1 : (L : Int) ≤ (M : Int) := by omega
  have i2 : (M : Int) ≤ (S : Int) := by omega
  have ne1 : ¬ V = w.heap.size := by omega
  have ne2 : ¬ V = w.heap.size + 1 := by omega
  have u0 := vV.cell (i := 0) rfl
  have g0 := vV.frozen 0
  have x0 := v1.cell (i := 0) rfl
  have x1 := v1.cell (i := 1) rfl
  have x2 := v1.cell (i := 2) rfl
  have x3' := v1.cell (i := 3) rfl
  have x4 := v1.cell (i := 4) rfl
  have f3 := v1.frozen 3
  have y0 := v2.cell (i := 0) rfl
  have y1 := v2.cell (i := 1) rfl
  have y2 := v2.cell (i := 2) rfl
  have y3 := v2.cell (i := 3) rfl
  have y4 := v2.cell (i := 4) rfl
  have k0 := v2.frozen 0
  have k1 := v2.frozen 1
  have k2 := v2.frozen 2
  have k3 := v2.frozen 3
  have k4 := v2.frozen 4
  have hCneq : C ≠ V := fun h => hneV h.symm
  have hC2 : Buf C S (cs ++ f.bs) w2 := by
    have e : (cs ++ f.bs).length = M := by rw [List.length_append, HL.out, HBB.out.2.1]; exact hM
    unfold Buf
    rw [e, List.map_append]
    exact hown2
  have FIN : ∀ a', Piece C (cs ++ f.bs) f a' → Hid (VB 37 (w.heap.size + 1) [.string s0, .string s1, .string s2, .slice a' n n, .pointer p] (put5 ((w2.setCell ⟨V, 0, none⟩ (.slice (some ⟨C, 0, none⟩) M S)).setCell ⟨w.heap.size, 3, none⟩ (.slice a' n n)) (w.heap.size + 1) 0 (.string s0) (.string s1) (.string s2) (.slice a' n n) (.pointer p)) ∧
      ClosPost V C S n cs f p w (.returned (.agg #[.string s0, .string s1, .string s2, .slice a' n n, .pointer p])) (put5 ((w2.setCell ⟨V, 0, none⟩ (.slice (some ⟨C, 0, none⟩) M S)).setCell ⟨w.heap.size, 3, none⟩ (.slice a' n n)) (w.heap.size + 1) 0 (.string s0) (.string s1) (.string s2) (.slice a' n n) (.pointer p))) := fun a' hp => by
    refine ⟨((v2.other (C := V) 0 _ (by omega)).other (C := w.heap.size) 3 _ (by omega)).put5 0 _ _ _ _ _, a', by rw [F0.out, F1.out, F2.out], hp, ?_, ?_, ?_⟩
    · refine hC2.keep ?_
      unfold put5
      have n1 : C ≠ w.heap.size := by omega
      have n2 : C ≠ w.heap.size + 1 := by omega
      rw [heap_setCell_other _ _ _ _ n2, heap_setCell_other _ _ _ _ n2, heap_setCell_other _ _ _ _ n2, heap_setCell_other _ _ _ _ n2, heap_setCell_other _ _ _ _ n2, heap_setCell_other _ _ _ _ n1, heap_setCell_other _ _ _ _ hCneq]
    · have e : (cs ++ f.bs).length = M := by rw [List.length_append, HL.out, HBB.out.2.1]; exact hM
      rw [e]
      exact ((vV.put 0 _).other (C := w.heap.size) 3 _ (by omega)).other5 (by omega) 0 _ _ _ _ _
    · have b0 : But V C w w2 := (But.of HB.out).trans bg
      have b1 := (b0.trans (But.set w2 0 (.slice (some ⟨C, 0, none⟩) M S))).new (Nat.le_refl _) 3 (.slice a' n n)
      exact ((((b1.new (Nat.le_succ _) 0 _).new (Nat.le_succ _) 1 _).new (Nat.le_succ _) 2 _).new (Nat.le_succ _) 3 _).new (Nat.le_succ _) 4 _
  have hnil : f.nil = false := HBB.out.1.symm
  have hlen := HBB.out.2.1
  have PN : Hid (∀ y, y = (⟨C, if cs.length + f.bs.length = cs.length then 0 else cs.length, none⟩ : Addr) → Piece C (cs ++ f.bs) f (some y)) := fun y hy => Piece.new hnil hy
  have HHL := hide hlen
  have HFN := hide FIN
  have HM := hide hM
  clear hown2 hg bg v1 v2 vV hM hneV x3 z0 FIN hC2 hlen
  go_wp2
  · have hML : M = L := by omega
    have hn0 : n = 0 := by omega
    subst hML
    obtain ⟨h1, h2⟩ := HFN.out (some ⟨C, 0, none⟩) (PN.out _ (by rw [if_pos (by rw [HHL.out]; omega)]))
    exact bodyPost_ret (results_cell_row Try.results15 _ _ (w.heap.size + 1) 37 _ (0, 0) _ rfl h1.heap Try.underlying37 rfl info37) rfl h2
  · obtain ⟨h1, h2⟩ := HFN.out (some ⟨C, L, none⟩) (PN.out _ (by rw [if_neg (by rw [HHL.out]; omega), HL.out]))
    exact bodyPost_ret (results_cell_row Try.results15 _ _ (w.heap.size + 1) 37 _ (0, 0) _ rfl h1.heap Try.underlying37 rfl info37) rfl h2

/-- the closure -/
theorem clos (V C S : Nat) (cs : List Int) (f : Flat) (a : Option Addr) (n c : Nat) (p : Option Addr) (w : World) (hB : Bytes w a n f.nil f.bs) (hc : a = none → c = 0) (hV : VB 35 V [.slice (some ⟨C, 0, none⟩) cs.length S] w) (hC : Buf C S cs w) (hne : V ≠ C) (hfit : cs.length + n ≤ S) (hS : S ≤ 1048576) :
    Calls Try.prog 15 #[.agg #[.string f.s0, .string f.s1, .string f.s2, .slice a n c, .pointer p], .pointer (some ⟨V, 0, none⟩)] w (ClosPost V C S n cs f p w) := by
  cases a with
  | none => obtain rfl := hc rfl; exact clos_nil V C S cs f n p w hB hV hC
  | some x => exact clos_some V C S cs f x n c p w hB hV hC hne hfit hS

end Go.Proofs.Qxb6628903a
