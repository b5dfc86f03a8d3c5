/- Seat b6628903a: how a message lies in memory. -/
import Derived.Test.Qxb6628903aRows
import Derived.WalkKit
import Derived.WalkSpells
import Derived.Deep.OwnRows
import Derived.Deep.Draws
namespace Go.Proofs.Qxb6628903a
open Go.RowKit

theorem hide {p : Prop} (h : p) : Hid p := h
theorem ret_bool {a b : Bool} (h : a = b) : Ending.returned (.bool a) = .returned (.bool b) := by rw [h]

/-- an element's plain part: three strings; the content: is it nil, its bytes -/
structure Flat where
  s0 : ByteArray
  s1 : ByteArray
  s2 : ByteArray
  nil : Bool
  bs : List Int

/-- an element: its plain part; its signature's plain part -/
structure El where
  f : Flat
  sig : Option Flat

/-- a slice of bytes -/
def Bytes (w : World) (a : Option Addr) (n : Nat) (nil : Bool) (bs : List Int) : Prop :=
  a.isNone = nil ∧ bs.length = n ∧ (bs ≠ [] → ∃ b off, a = some ⟨b, off, none⟩ ∧ ∀ i, i < bs.length → w.cell? ⟨b, off + i, none⟩ = some (.int .u8 (bs.getD i 0)))

/-- a slice of strings -/
def Strs (w : World) (a : Option Addr) (n : Nat) (nil : Bool) (ss : List ByteArray) : Prop :=
  a.isNone = nil ∧ ss.length = n ∧ (ss ≠ [] → ∃ b off, a = some ⟨b, off, none⟩ ∧ ∀ i, i < ss.length → w.cell? ⟨b, off + i, none⟩ = some (.string (ss.getD i ByteArray.empty)))

/-- the four plain fields, at an address -/
def FlatAt (w : World) (b o : Nat) (f : Flat) : Prop :=
  w.cell? ⟨b, o, none⟩ = some (.string f.s0) ∧ w.cell? ⟨b, o + 1, none⟩ = some (.string f.s1) ∧ w.cell? ⟨b, o + 2, none⟩ = some (.string f.s2) ∧
  ∃ a n c, w.cell? ⟨b, o + 3, none⟩ = some (.slice a n c) ∧ Bytes w a n f.nil f.bs ∧ (a = none → c = 0)

/-- what the signature's pointer leads to -/
def SigIs (w : World) (R : Option Addr → Prop) (p : Option Addr) (sig : Option Flat) : Prop :=
  match sig with
  | none => p = none
  | some g => ∃ pb po, p = some ⟨pb, po, none⟩ ∧ FlatAt w pb po g ∧ ∃ r, R r ∧ w.cell? ⟨pb, po + 4, none⟩ = some (.pointer r)

/-- an element, at an address -/
def ElAt (w : World) (R : Option Addr → Prop) (b o : Nat) (e : El) : Prop :=
  FlatAt w b o e.f ∧ ∃ p, w.cell? ⟨b, o + 4, none⟩ = some (.pointer p) ∧ SigIs w R p e.sig

/-- a slice of elements -/
def Els (w : World) (R : Option Addr → Prop) (a : Option Addr) (n : Nat) (nil : Bool) (es : List El) : Prop :=
  a.isNone = nil ∧ es.length = n ∧ (es ≠ [] → ∃ b off, a = some ⟨b, off, none⟩ ∧ ∀ i (h : i < es.length), ElAt w R b (off + i * 5) (es[i]'h))

/-- a message, in block q; nn, ne: are its two slices nil -/
def MsgAt (w : World) (q : Nat) (nn ne : Bool) (ss : List ByteArray) (es : List El) : Prop :=
  ∃ na nc ea ec, w.cell? ⟨q, 0, none⟩ = some (.slice na ss.length nc) ∧ w.cell? ⟨q, 1, none⟩ = some (.slice ea es.length ec) ∧ Strs w na ss.length nn ss ∧ Els w (· = none) ea es.length ne es

/-! ### what was there stays -/
theorem cell_on {w w' : World} (hb : Below w.heap.size w w') {a : Addr} {v : Value} (h : w.cell? a = some v) : w'.cell? a = some v := cell_later hb h

theorem Bytes.on {w w' : World} {a : Option Addr} {n : Nat} {nil : Bool} {bs : List Int} (h : Bytes w a n nil bs) (hb : Below w.heap.size w w') : Bytes w' a n nil bs :=
  ⟨h.1, h.2.1, fun hx => let ⟨b, off, ha, hc⟩ := h.2.2 hx; ⟨b, off, ha, fun i hi => cell_on hb (hc i hi)⟩⟩

theorem Strs.on {w w' : World} {a : Option Addr} {n : Nat} {nil : Bool} {ss : List ByteArray} (h : Strs w a n nil ss) (hb : Below w.heap.size w w') : Strs w' a n nil ss :=
  ⟨h.1, h.2.1, fun hx => let ⟨b, off, ha, hc⟩ := h.2.2 hx; ⟨b, off, ha, fun i hi => cell_on hb (hc i hi)⟩⟩

theorem FlatAt.on {w w' : World} {b o : Nat} {f : Flat} (h : FlatAt w b o f) (hb : Below w.heap.size w w') : FlatAt w' b o f := by
  obtain ⟨h0, h1, h2, a, n, c, h3, h4, h5⟩ := h
  exact ⟨cell_on hb h0, cell_on hb h1, cell_on hb h2, a, n, c, cell_on hb h3, h4.on hb, h5⟩

theorem SigIs.on {w w' : World} {R : Option Addr → Prop} {p : Option Addr} {sig : Option Flat} (h : SigIs w R p sig) (hb : Below w.heap.size w w') : SigIs w' R p sig := by
  cases sig with
  | none => exact h
  | some g =>
    obtain ⟨pb, po, rfl, hf, r, hr, hc⟩ := h
    exact ⟨pb, po, rfl, hf.on hb, r, hr, cell_on hb hc⟩

theorem ElAt.on {w w' : World} {R : Option Addr → Prop} {b o : Nat} {e : El} (h : ElAt w R b o e) (hb : Below w.heap.size w w') : ElAt w' R b o e := by
  obtain ⟨hf, p, hp, hs⟩ := h
  exact ⟨hf.on hb, p, cell_on hb hp, hs.on hb⟩

theorem Els.on {w w' : World} {R : Option Addr → Prop} {a : Option Addr} {n : Nat} {nil : Bool} {es : List El} (h : Els w R a n nil es) (hb : Below w.heap.size w w') : Els w' R a n nil es :=
  ⟨h.1, h.2.1, fun hx => let ⟨b, off, ha, hc⟩ := h.2.2 hx; ⟨b, off, ha, fun i hi => (hc i hi).on hb⟩⟩

theorem MsgAt.on {w w' : World} {q : Nat} {nn ne : Bool} {ss : List ByteArray} {es : List El} (h : MsgAt w q nn ne ss es) (hb : Below w.heap.size w w') : MsgAt w' q nn ne ss es := by
  obtain ⟨na, nc, ea, ec, h0, h1, h2, h3⟩ := h
  exact ⟨na, nc, ea, ec, cell_on hb h0, cell_on hb h1, h2.on hb, h3.on hb⟩

theorem below_draw {w : World} (n : Nat) : Below w.heap.size w (w.drewN n) := ⟨rfl, rfl, rfl, Nat.le_refl _, fun _ _ => rfl⟩

theorem bchain {w w1 w2 : World} (h1 : Below w.heap.size w w1) (h2 : Below w1.heap.size w1 w2) : Below w.heap.size w w2 := h1.trans (h2.mono h1.size)

theorem nil35 (w : World) (a : Option Addr) (n c : Nat) : (binOp .eql 35 (.slice a n c) (.slice none 0 0)).run Try.prog w = .ok (.bool a.isNone) w := Lib.run_eql_slice_nil w 35 5 a n c 0 0 Try.underlying35
theorem nil22 (w : World) (a : Option Addr) (n c : Nat) : (binOp .eql 22 (.slice a n c) (.slice none 0 0)).run Try.prog w = .ok (.bool a.isNone) w := Lib.run_eql_slice_nil w 22 9 a n c 0 0 Try.underlying22
theorem nil23 (w : World) (a : Option Addr) (n c : Nat) : (binOp .eql 23 (.slice a n c) (.slice none 0 0)).run Try.prog w = .ok (.bool a.isNone) w := Lib.run_eql_slice_nil w 23 41 a n c 0 0 Try.underlying23
theorem nil31 (w : World) (a : Option Addr) (n c : Nat) : (binOp .eql 31 (.slice a n c) (.slice none 0 0)).run Try.prog w = .ok (.bool a.isNone) w := Lib.run_eql_slice_nil w 31 37 a n c 0 0 Try.underlying31
theorem not35 (w : World) (a : Option Addr) (n c : Nat) : (binOp .neq 35 (.slice a n c) (.slice none 0 0)).run Try.prog w = .ok (.bool (!a.isNone)) w := run_neq_slice_nil_any w 35 5 a n c 0 0 Try.underlying35
theorem not23 (w : World) (a : Option Addr) (n c : Nat) : (binOp .neq 23 (.slice a n c) (.slice none 0 0)).run Try.prog w = .ok (.bool (!a.isNone)) w := run_neq_slice_nil_any w 23 41 a n c 0 0 Try.underlying23

end Go.Proofs.Qxb6628903a
