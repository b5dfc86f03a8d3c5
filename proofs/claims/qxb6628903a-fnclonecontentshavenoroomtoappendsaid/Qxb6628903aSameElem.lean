/- zzSameFields (function 21), zzSameElem (function 17): true where the two elements read alike. -/
import Derived.Test.Qxb6628903aSameBytes
import Derived.Deep.RegionHeld3
namespace Go.Proofs.Qxb6628903a
open Go.RowKit

set_option maxHeartbeats 1000000 in
theorem sameFields (f : Flat) (a1 a2 : Option Addr) (n c1 c2 : Nat) (p1 p2 : Option Addr) (w : World) (hn : n ≤ 9223372036854775807) (h1 : Bytes w a1 n f.nil f.bs) (h2 : Bytes w a2 n f.nil f.bs) :
    Calls Try.prog 21 #[.agg #[.string f.s0, .string f.s1, .string f.s2, .slice a1 n c1, .pointer p1], .agg #[.string f.s0, .string f.s1, .string f.s2, .slice a2 n c2, .pointer p2]] w
      fun e w' => e = .returned (.bool true) ∧ Below w.heap.size w w' := by
  have hb : ∀ A B : Obj, Below w.heap.size w ((w.alloc A).alloc B) := fun A B => ((Below.refl _ _).alloc (Nat.le_refl _) _).alloc (by simp) _
  have H1 := hide fun A B => h1.on (hb A B)
  have H2 := hide fun A B => h2.on (hb A B)
  have HB := hide hb
  clear h1 h2 hb
  generalize f.s0 = s0
  generalize f.s1 = s1
  generalize f.s2 = s2
  go_enter Try.func21, Try.ntmps21
  go_wp2_with fail
  refine (sameBytes _ _ _ _ _ _ _ _ hn (H1.out _ _) (H2.out _ _)).mono ?_
  rintro e w' ⟨rfl, k, rfl⟩
  go_wp2
  go_ret
  exact ⟨rfl, bchain (HB.out _ _) (below_draw k)⟩

/-- two boxes laid behind a world: their cells -/
theorem boxes (w : World) (x0 x1 x2 x3 x4 y0 y1 y2 y3 y4 : Value) (s t : TypeId) :
    let W := (w.alloc (.cells #[x0, x1, x2, x3, x4] s)).alloc (.cells #[y0, y1, y2, y3, y4] t)
    (W.cell? ⟨w.heap.size, 0, none⟩ = some x0 ∧ W.cell? ⟨w.heap.size, 1, none⟩ = some x1 ∧ W.cell? ⟨w.heap.size, 2, none⟩ = some x2 ∧ W.cell? ⟨w.heap.size, 3, none⟩ = some x3 ∧ W.cell? ⟨w.heap.size, 4, none⟩ = some x4) ∧
    (W.cell? ⟨w.heap.size + 1, 0, none⟩ = some y0 ∧ W.cell? ⟨w.heap.size + 1, 1, none⟩ = some y1 ∧ W.cell? ⟨w.heap.size + 1, 2, none⟩ = some y2 ∧ W.cell? ⟨w.heap.size + 1, 3, none⟩ = some y3 ∧ W.cell? ⟨w.heap.size + 1, 4, none⟩ = some y4) := by
  refine ⟨⟨?_, ?_, ?_, ?_, ?_⟩, ?_, ?_, ?_, ?_, ?_⟩
  all_goals first
    | (rw [World.cell?_alloc_past _ _ _ (by simp), World.cell?_alloc_at _ _ _ _ rfl]; rfl)
    | (rw [World.cell?_alloc_at _ _ _ _ (by simp)]; rfl)

set_option maxHeartbeats 1000000 in
theorem sameElem_plain (f : Flat) (a1 a2 : Option Addr) (n c1 c2 : Nat) (w : World) (hn : n ≤ 9223372036854775807) (h1 : Bytes w a1 n f.nil f.bs) (h2 : Bytes w a2 n f.nil f.bs) :
    Calls Try.prog 17 #[.agg #[.string f.s0, .string f.s1, .string f.s2, .slice a1 n c1, .pointer none], .agg #[.string f.s0, .string f.s1, .string f.s2, .slice a2 n c2, .pointer none]] w
      fun e w' => e = .returned (.bool true) ∧ Below w.heap.size w w' := by
  have hb : ∀ A B : Obj, Below w.heap.size w ((w.alloc A).alloc B) := fun A B => ((Below.refl _ _).alloc (Nat.le_refl _) _).alloc (by simp) _
  have H1 := hide fun A B => h1.on (hb A B)
  have H2 := hide fun A B => h2.on (hb A B)
  have HB := hide hb
  have HC := hide (boxes w (.string f.s0) (.string f.s1) (.string f.s2) (.slice a1 n c1) (.pointer none) (.string f.s0) (.string f.s1) (.string f.s2) (.slice a2 n c2) (.pointer none) 37 41)
  clear h1 h2 hb
  go_enter Try.func17, Try.ntmps17
  go_wp2_with fail
  refine (sameFields f _ _ _ _ _ _ _ _ hn (H1.out _ _) (H2.out _ _)).mono ?_
  rintro e w1 ⟨rfl, hb1⟩
  have B1 := hide (bchain (HB.out _ _) hb1)
  have x4 := cell_on hb1 HC.out.1.2.2.2.2
  have y4 := cell_on hb1 HC.out.2.2.2.2.2
  clear hb1 HC H1 H2
  go_wp2
  go_ret
  exact ⟨rfl, B1.out⟩

set_option maxHeartbeats 1000000 in
theorem sameElem_sig (f g : Flat) (a1 a2 : Option Addr) (n c1 c2 : Nat) (pb po qb qo : Nat) (w : World) (hn : n ≤ 9223372036854775807) (hg : g.bs.length ≤ 9223372036854775807) (h1 : Bytes w a1 n f.nil f.bs) (h2 : Bytes w a2 n f.nil f.bs)
    (h3 : FlatAt w pb po g) (h4 : w.cell? ⟨pb, po + 4, none⟩ = some (.pointer none)) (h5 : FlatAt w qb qo g) (r : Option Addr) (h6 : w.cell? ⟨qb, qo + 4, none⟩ = some (.pointer r)) :
    Calls Try.prog 17 #[.agg #[.string f.s0, .string f.s1, .string f.s2, .slice a1 n c1, .pointer (some ⟨pb, po, none⟩)], .agg #[.string f.s0, .string f.s1, .string f.s2, .slice a2 n c2, .pointer (some ⟨qb, qo, none⟩)]] w
      fun e w' => e = .returned (.bool true) ∧ Below w.heap.size w w' := by
  have hb : ∀ A B : Obj, Below w.heap.size w ((w.alloc A).alloc B) := fun A B => ((Below.refl _ _).alloc (Nat.le_refl _) _).alloc (by simp) _
  have H1 := hide fun A B => h1.on (hb A B)
  have H2 := hide fun A B => h2.on (hb A B)
  have HB := hide hb
  have HC := hide (boxes w (.string f.s0) (.string f.s1) (.string f.s2) (.slice a1 n c1) (.pointer (some ⟨pb, po, none⟩)) (.string f.s0) (.string f.s1) (.string f.s2) (.slice a2 n c2) (.pointer (some ⟨qb, qo, none⟩)) 37 41)
  have H3 := hide h3
  have H4 := hide h4
  have H5 := hide h5
  have H6 := hide h6
  clear h1 h2 hb h3 h4 h5 h6
  go_enter Try.func17, Try.ntmps17
  go_wp2_with fail
  refine (sameFields f _ _ _ _ _ _ _ _ hn (H1.out _ _) (H2.out _ _)).mono ?_
  rintro e w1 ⟨rfl, hb1⟩
  have hb2 := bchain (HB.out _ _) hb1
  have B1 := hide hb2
  have x4 := cell_on hb1 HC.out.1.2.2.2.2
  have y4 := cell_on hb1 HC.out.2.2.2.2.2
  obtain ⟨p0, p1, p2, pa, pn, pc, p3, hpB, _⟩ := H3.out.on hb2
  obtain ⟨q0, q1, q2, qa, qn, qc, q3, hqB, _⟩ := H5.out.on hb2
  have p4 := cell_on hb2 H4.out
  have q4 := cell_on hb2 H6.out
  obtain rfl : pn = qn := by rw [← hpB.2.1, ← hqB.2.1]
  have hpn : pn ≤ 9223372036854775807 := by rw [← hpB.2.1]; exact hg
  have HP := hide hpB
  have HQ := hide hqB
  clear hb1 hb2 HC H1 H2 H3 H4 H5 H6 hpB hqB
  go_wp2_with fail
  go_region_held3 (fun w' => w'.cell? ⟨w.heap.size, 4, none⟩ = some (.pointer (some ⟨pb, po, none⟩)) ∧ w'.cell? ⟨w.heap.size + 1, 4, none⟩ = some (.pointer (some ⟨qb, qo, none⟩)) ∧
      w'.cell? ⟨pb, po, none⟩ = some (.string g.s0) ∧ w'.cell? ⟨pb, po + 1, none⟩ = some (.string g.s1) ∧ w'.cell? ⟨pb, po + 2, none⟩ = some (.string g.s2) ∧ w'.cell? ⟨pb, po + 3, none⟩ = some (.slice pa pn pc) ∧ w'.cell? ⟨pb, po + 4, none⟩ = some (.pointer none) ∧
      w'.cell? ⟨qb, qo, none⟩ = some (.string g.s0) ∧ w'.cell? ⟨qb, qo + 1, none⟩ = some (.string g.s1) ∧ w'.cell? ⟨qb, qo + 2, none⟩ = some (.string g.s2) ∧ w'.cell? ⟨qb, qo + 3, none⟩ = some (.slice qa pn qc) ∧ w'.cell? ⟨qb, qo + 4, none⟩ = some (.pointer r))
    (first | go_keep | (refine ⟨?_, ?_, ?_, ?_, ?_, ?_, ?_, ?_, ?_, ?_, ?_, ?_⟩ <;> (apply cell_on hb3; assumption)))
    ((go_at_call 21; refine (sameFields g _ _ _ _ _ _ _ _ hpn (HP.out.on (below_draw 1)) (HQ.out.on (below_draw 1))).mono ?_; rintro e w2 ⟨rfl, hb3⟩))
  have B2 := hide (bchain B1.out (bchain (below_draw 1) hb3))
  have z4 := cell_on hb3 (show w1.drew.cell? _ = _ from x4)
  have z5 := cell_on hb3 (show w1.drew.cell? _ = _ from p4)
  clear x4 y4 p0 p1 p2 p3 p4 q0 q1 q2 q3 q4 hb3
  go_wp2
  go_ret
  exact ⟨rfl, B2.out⟩

/-- zzSameElem, its two arguments read out of memory -/
theorem sameElem (e : El) (R : Option Addr → Prop) (a1 a2 : Option Addr) (n c1 c2 : Nat) (p1 p2 : Option Addr) (w : World) (hn : n ≤ 9223372036854775807) (hg : ∀ g, e.sig = some g → g.bs.length ≤ 9223372036854775807) (h1 : Bytes w a1 n e.f.nil e.f.bs) (h2 : Bytes w a2 n e.f.nil e.f.bs)
    (h3 : SigIs w (· = none) p1 e.sig) (h4 : SigIs w R p2 e.sig) :
    Calls Try.prog 17 #[.agg #[.string e.f.s0, .string e.f.s1, .string e.f.s2, .slice a1 n c1, .pointer p1], .agg #[.string e.f.s0, .string e.f.s1, .string e.f.s2, .slice a2 n c2, .pointer p2]] w
      fun e w' => e = .returned (.bool true) ∧ Below w.heap.size w w' := by
  cases hs : e.sig with
  | none =>
    rw [hs] at h3 h4
    obtain rfl : p1 = none := h3
    obtain rfl : p2 = none := h4
    exact sameElem_plain e.f a1 a2 n c1 c2 w hn h1 h2
  | some g =>
    rw [hs] at h3 h4
    obtain ⟨pb, po, rfl, hf1, r1, rfl, hc1⟩ := h3
    obtain ⟨qb, qo, rfl, hf2, r2, _, hc2⟩ := h4
    exact sameElem_sig e.f g a1 a2 n c1 c2 pb po qb qo w hn (hg g hs) h1 h2 hf1 hc1 hf2 r2 hc2

end Go.Proofs.Qxb6628903a
