/- Rows of five cells in a list of values. No Go in sight. -/
import Derived.Test.Qxb6628903aMem
namespace Go.Proofs.Qxb6628903a

/-- five cells from o on: an element's -/
def RowAt (vs : List Value) (o : Nat) (f : Flat) (a : Option Addr) (n c : Nat) (p : Option Addr) : Prop :=
  vs[o]? = some (.string f.s0) ∧ vs[o + 1]? = some (.string f.s1) ∧ vs[o + 2]? = some (.string f.s2) ∧ vs[o + 3]? = some (.slice a n c) ∧ vs[o + 4]? = some (.pointer p)

def set5 (vs : List Value) (o : Nat) (x0 x1 x2 x3 x4 : Value) : List Value := ((((vs.set o x0).set (o + 1) x1).set (o + 2) x2).set (o + 3) x3).set (o + 4) x4

theorem set5_len (vs : List Value) (o : Nat) (x0 x1 x2 x3 x4 : Value) : (set5 vs o x0 x1 x2 x3 x4).length = vs.length := by simp [set5]

theorem set5_other {vs : List Value} {o i : Nat} {x0 x1 x2 x3 x4 : Value} (h : i < o ∨ o + 4 < i) : (set5 vs o x0 x1 x2 x3 x4)[i]? = vs[i]? := by
  unfold set5
  rw [List.getElem?_set_ne (by omega), List.getElem?_set_ne (by omega), List.getElem?_set_ne (by omega), List.getElem?_set_ne (by omega), List.getElem?_set_ne (by omega)]

theorem set5_same {vs : List Value} {o : Nat} {x0 x1 x2 x3 x4 : Value} (h : o + 4 < vs.length) :
    (set5 vs o x0 x1 x2 x3 x4)[o]? = some x0 ∧ (set5 vs o x0 x1 x2 x3 x4)[o + 1]? = some x1 ∧ (set5 vs o x0 x1 x2 x3 x4)[o + 2]? = some x2 ∧ (set5 vs o x0 x1 x2 x3 x4)[o + 3]? = some x3 ∧ (set5 vs o x0 x1 x2 x3 x4)[o + 4]? = some x4 := by
  unfold set5
  refine ⟨?_, ?_, ?_, ?_, ?_⟩
  · rw [List.getElem?_set_ne (by omega), List.getElem?_set_ne (by omega), List.getElem?_set_ne (by omega), List.getElem?_set_ne (by omega), List.getElem?_set_self (by omega)]
  · rw [List.getElem?_set_ne (by omega), List.getElem?_set_ne (by omega), List.getElem?_set_ne (by omega), List.getElem?_set_self (by simp; omega)]
  · rw [List.getElem?_set_ne (by omega), List.getElem?_set_ne (by omega), List.getElem?_set_self (by simp; omega)]
  · rw [List.getElem?_set_ne (by omega), List.getElem?_set_self (by simp; omega)]
  · rw [List.getElem?_set_self (by simp; omega)]

theorem five {vs : List Value} {o : Nat} (h : o + 4 < vs.length) : ∃ y0 y1 y2 y3 y4, vs[o]? = some y0 ∧ vs[o + 1]? = some y1 ∧ vs[o + 2]? = some y2 ∧ vs[o + 3]? = some y3 ∧ vs[o + 4]? = some y4 :=
  ⟨_, _, _, _, _, List.getElem?_eq_getElem (by omega), List.getElem?_eq_getElem (by omega), List.getElem?_eq_getElem (by omega), List.getElem?_eq_getElem (by omega), List.getElem?_eq_getElem (by omega)⟩

/-- no byte lies in the list -/
def NoInt (vs : List Value) : Prop := ∀ z, Value.int .u8 z ∉ vs

theorem NoInt.set {vs : List Value} (h : NoInt vs) {o : Nat} {x : Value} (hx : ∀ z, x ≠ .int .u8 z) : NoInt (vs.set o x) := fun z hz => by
  rcases List.mem_or_eq_of_mem_set hz with h1 | h1
  · exact h z h1
  · exact hx z h1.symm

theorem NoInt.set5 {vs : List Value} (h : NoInt vs) {o : Nat} {x0 x1 x2 x3 x4 : Value} (h0 : ∀ z, x0 ≠ .int .u8 z) (h1 : ∀ z, x1 ≠ .int .u8 z) (h2 : ∀ z, x2 ≠ .int .u8 z) (h3 : ∀ z, x3 ≠ .int .u8 z) (h4 : ∀ z, x4 ≠ .int .u8 z) :
    NoInt (Qxb6628903a.set5 vs o x0 x1 x2 x3 x4) := ((((h.set h0).set h1).set h2).set h3).set h4

theorem RowAt.keep {vs : List Value} {o i : Nat} {x0 x1 x2 x3 x4 : Value} {f : Flat} {a : Option Addr} {n c : Nat} {p : Option Addr} (h : RowAt vs i f a n c p) (hd : i + 4 < o ∨ o + 4 < i) : RowAt (set5 vs o x0 x1 x2 x3 x4) i f a n c p := by
  obtain ⟨h0, h1, h2, h3, h4⟩ := h
  exact ⟨by rw [set5_other (by omega)]; exact h0, by rw [set5_other (by omega)]; exact h1, by rw [set5_other (by omega)]; exact h2, by rw [set5_other (by omega)]; exact h3, by rw [set5_other (by omega)]; exact h4⟩

theorem RowAt.new {vs : List Value} {o : Nat} {f : Flat} {a : Option Addr} {n c : Nat} {p : Option Addr} (h : o + 4 < vs.length) : RowAt (set5 vs o (.string f.s0) (.string f.s1) (.string f.s2) (.slice a n c) (.pointer p)) o f a n c p := set5_same h

end Go.Proofs.Qxb6628903a
